import JvmDerived
import JvmDerived.Pilot.@@N@@Statement
import JvmDerived.Pilot.@@N@@Code
set_option linter.unusedVariables false
set_option linter.unusedSimpArgs false
namespace Jvm.Pilot.@@N@@
open Jvm Jvm.ClassFile Sem Op Lib Jvm.Free Jvm.Stand Jvm.LawKit Jvm.RoadKit Bundle Jvm.Pilot.@@N@@.Jvm.D
/-- from A the run comes to B -/
def Go (p : Program) (e : Env) (below : List Frame) (A B : State) : Prop := ∀ t, Steps p.tables e below B t → Steps p.tables e below A t
def own_b (P : Prop) [Decidable P] : Int32 := if P then 1 else 0
theorem own_b1 {P : Prop} [Decidable P] (h : P) : ¬ own_b P = (0 : Int32) := by simp [own_b, h]
theorem own_b0 {P : Prop} [Decidable P] (h : ¬ P) : own_b P = (0 : Int32) := by simp [own_b, h]
theorem own_bt {P : Prop} [Decidable P] (h : P) : own_b P = (1 : Int32) := by simp [own_b, h]
theorem own_nb {P : Prop} [Decidable P] : nar .boolean (own_b P) = own_b P := by by_cases h : P <;> simp [own_b, h] <;> decide
theorem own_beq {P R : Prop} [Decidable P] [Decidable R] (h : P ↔ R) : own_b P = own_b R := by by_cases q : P <;> simp [own_b, q, ← h]
theorem d1_0 : decode prog_28_method_1_code 0 = .ok (.aload_n 0, 1) := by decide +kernel
theorem d1_1 : decode prog_28_method_1_code 1 = .ok (.invokespecial 1, 3) := by decide +kernel
theorem d1_4 : decode prog_28_method_1_code 4 = .ok (.aload_n 0, 1) := by decide +kernel
theorem d1_5 : decode prog_28_method_1_code 5 = .ok (.new 7, 3) := by decide +kernel
theorem d1_8 : decode prog_28_method_1_code 8 = .ok (.dup, 1) := by decide +kernel
theorem d1_9 : decode prog_28_method_1_code 9 = .ok (.invokespecial 9, 3) := by decide +kernel
theorem d1_12 : decode prog_28_method_1_code 12 = .ok (.putfield 10, 3) := by decide +kernel
theorem d1_15 : decode prog_28_method_1_code 15 = .ok (.return_, 1) := by decide +kernel
theorem d3_0 : decode jdk_69_method_7_code 0 = .ok (.aload_n 0, 1) := by decide +kernel
theorem d3_1 : decode jdk_69_method_7_code 1 = .ok (.invokespecial 43, 3) := by decide +kernel
theorem d3_4 : decode jdk_69_method_7_code 4 = .ok (.aload_n 0, 1) := by decide +kernel
theorem d3_5 : decode jdk_69_method_7_code 5 = .ok (.ldc 92, 2) := by decide +kernel
theorem d3_7 : decode jdk_69_method_7_code 7 = .ok (.putfield 81, 3) := by decide +kernel
theorem d3_10 : decode jdk_69_method_7_code 10 = .ok (.return_, 1) := by decide +kernel
theorem d4_0 : decode jdk_71_method_1_code 0 = .ok (.aload_n 0, 1) := by decide +kernel
theorem d4_1 : decode jdk_71_method_1_code 1 = .ok (.invokespecial 1, 3) := by decide +kernel
theorem d4_4 : decode jdk_71_method_1_code 4 = .ok (.return_, 1) := by decide +kernel
theorem d5_0 : decode prog_28_method_2_code 0 = .ok (.aload_n 0, 1) := by decide +kernel
theorem d5_1 : decode prog_28_method_2_code 1 = .ok (.dup, 1) := by decide +kernel
theorem d5_2 : decode prog_28_method_2_code 2 = .ok (.getfield 16, 3) := by decide +kernel
theorem d5_5 : decode prog_28_method_2_code 5 = .ok (.dup_x1, 1) := by decide +kernel
theorem d5_6 : decode prog_28_method_2_code 6 = .ok (.iconst 1, 1) := by decide +kernel
theorem d5_7 : decode prog_28_method_2_code 7 = .ok (.iadd, 1) := by decide +kernel
theorem d5_8 : decode prog_28_method_2_code 8 = .ok (.putfield 16, 3) := by decide +kernel
theorem d5_11 : decode prog_28_method_2_code 11 = .ok (.ireturn, 1) := by decide +kernel
theorem d6_0 : decode prog_28_method_4_code 0 = .ok (.aload_n 0, 1) := by decide +kernel
theorem d6_1 : decode prog_28_method_4_code 1 = .ok (.getfield 20, 3) := by decide +kernel
theorem d6_4 : decode prog_28_method_4_code 4 = .ok (.ireturn, 1) := by decide +kernel
theorem d7_0 : decode prog_28_method_3_code 0 = .ok (.aload_n 0, 1) := by decide +kernel
theorem d7_1 : decode prog_28_method_3_code 1 = .ok (.dup, 1) := by decide +kernel
theorem d7_2 : decode prog_28_method_3_code 2 = .ok (.getfield 20, 3) := by decide +kernel
theorem d7_5 : decode prog_28_method_3_code 5 = .ok (.iconst 1, 1) := by decide +kernel
theorem d7_6 : decode prog_28_method_3_code 6 = .ok (.iadd, 1) := by decide +kernel
theorem d7_7 : decode prog_28_method_3_code 7 = .ok (.putfield 20, 3) := by decide +kernel
theorem d7_10 : decode prog_28_method_3_code 10 = .ok (.return_, 1) := by decide +kernel
theorem d8_0 : decode prog_56_method_1_code 0 = .ok (.aload_n 0, 1) := by decide +kernel
theorem d8_1 : decode prog_56_method_1_code 1 = .ok (.invokespecial 1, 3) := by decide +kernel
theorem d8_4 : decode prog_56_method_1_code 4 = .ok (.aload_n 0, 1) := by decide +kernel
theorem d8_5 : decode prog_56_method_1_code 5 = .ok (.new 7, 3) := by decide +kernel
theorem d8_8 : decode prog_56_method_1_code 8 = .ok (.dup, 1) := by decide +kernel
theorem d8_9 : decode prog_56_method_1_code 9 = .ok (.invokespecial 9, 3) := by decide +kernel
theorem d8_12 : decode prog_56_method_1_code 12 = .ok (.putfield 10, 3) := by decide +kernel
theorem d8_15 : decode prog_56_method_1_code 15 = .ok (.aload_n 0, 1) := by decide +kernel
theorem d8_16 : decode prog_56_method_1_code 16 = .ok (.new 16, 3) := by decide +kernel
theorem d8_19 : decode prog_56_method_1_code 19 = .ok (.dup, 1) := by decide +kernel
theorem d8_20 : decode prog_56_method_1_code 20 = .ok (.invokespecial 18, 3) := by decide +kernel
theorem d8_23 : decode prog_56_method_1_code 23 = .ok (.putfield 19, 3) := by decide +kernel
theorem d8_26 : decode prog_56_method_1_code 26 = .ok (.aload_n 0, 1) := by decide +kernel
theorem d8_27 : decode prog_56_method_1_code 27 = .ok (.aload_n 1, 1) := by decide +kernel
theorem d8_28 : decode prog_56_method_1_code 28 = .ok (.putfield 23, 3) := by decide +kernel
theorem d8_31 : decode prog_56_method_1_code 31 = .ok (.aload_n 0, 1) := by decide +kernel
theorem d8_32 : decode prog_56_method_1_code 32 = .ok (.aload_n 2, 1) := by decide +kernel
theorem d8_33 : decode prog_56_method_1_code 33 = .ok (.putfield 27, 3) := by decide +kernel
theorem d8_36 : decode prog_56_method_1_code 36 = .ok (.aload_n 0, 1) := by decide +kernel
theorem d8_37 : decode prog_56_method_1_code 37 = .ok (.aload_n 2, 1) := by decide +kernel
theorem d8_38 : decode prog_56_method_1_code 38 = .ok (.invokevirtual 31, 3) := by decide +kernel
theorem d8_41 : decode prog_56_method_1_code 41 = .ok (.putfield 37, 3) := by decide +kernel
theorem d8_44 : decode prog_56_method_1_code 44 = .ok (.return_, 1) := by decide +kernel
theorem d9_0 : decode jdk_38_method_2_code 0 = .ok (.aload_n 0, 1) := by decide +kernel
theorem d9_1 : decode jdk_38_method_2_code 1 = .ok (.invokespecial 1, 3) := by decide +kernel
theorem d9_4 : decode jdk_38_method_2_code 4 = .ok (.aload_n 0, 1) := by decide +kernel
theorem d9_5 : decode jdk_38_method_2_code 5 = .ok (.getstatic 39, 3) := by decide +kernel
theorem d9_8 : decode jdk_38_method_2_code 8 = .ok (.putfield 9, 3) := by decide +kernel
theorem d9_11 : decode jdk_38_method_2_code 11 = .ok (.return_, 1) := by decide +kernel
theorem d10_0 : decode jdk_39_method_1_code 0 = .ok (.aload_n 0, 1) := by decide +kernel
theorem d10_1 : decode jdk_39_method_1_code 1 = .ok (.invokespecial 1, 3) := by decide +kernel
theorem d10_4 : decode jdk_39_method_1_code 4 = .ok (.aload_n 0, 1) := by decide +kernel
theorem d10_5 : decode jdk_39_method_1_code 5 = .ok (.iconst 0, 1) := by decide +kernel
theorem d10_6 : decode jdk_39_method_1_code 6 = .ok (.putfield 7, 3) := by decide +kernel
theorem d10_9 : decode jdk_39_method_1_code 9 = .ok (.return_, 1) := by decide +kernel
theorem d11_0 : decode jdk_22_method_1_code 0 = .ok (.aload_n 0, 1) := by decide +kernel
theorem d11_1 : decode jdk_22_method_1_code 1 = .ok (.invokespecial 1, 3) := by decide +kernel
theorem d11_4 : decode jdk_22_method_1_code 4 = .ok (.return_, 1) := by decide +kernel
theorem d12_0 : decode jdk_2620_method_3_code 0 = .ok (.aload_n 0, 1) := by decide +kernel
theorem d12_1 : decode jdk_2620_method_3_code 1 = .ok (.bipush 16, 2) := by decide +kernel
theorem d12_3 : decode jdk_2620_method_3_code 3 = .ok (.ldc 7, 2) := by decide +kernel
theorem d12_5 : decode jdk_2620_method_3_code 5 = .ok (.iconst 1, 1) := by decide +kernel
theorem d12_6 : decode jdk_2620_method_3_code 6 = .ok (.invokespecial 1, 3) := by decide +kernel
theorem d12_9 : decode jdk_2620_method_3_code 9 = .ok (.return_, 1) := by decide +kernel
theorem d13_0 : decode jdk_93_method_5_code 0 = .ok (.aload_n 0, 1) := by decide +kernel
theorem d13_1 : decode jdk_93_method_5_code 1 = .ok (.invokespecial 1, 3) := by decide +kernel
theorem d13_4 : decode jdk_93_method_5_code 4 = .ok (.aload_n 0, 1) := by decide +kernel
theorem d13_5 : decode jdk_93_method_5_code 5 = .ok (.new 42, 3) := by decide +kernel
theorem d13_8 : decode jdk_93_method_5_code 8 = .ok (.dup, 1) := by decide +kernel
theorem d13_9 : decode jdk_93_method_5_code 9 = .ok (.iload_n 1, 1) := by decide +kernel
theorem d13_10 : decode jdk_93_method_5_code 10 = .ok (.fload_n 2, 1) := by decide +kernel
theorem d13_11 : decode jdk_93_method_5_code 11 = .ok (.invokespecial 44, 3) := by decide +kernel
theorem d13_14 : decode jdk_93_method_5_code 14 = .ok (.putfield 10, 3) := by decide +kernel
theorem d13_17 : decode jdk_93_method_5_code 17 = .ok (.return_, 1) := by decide +kernel
theorem d14_0 : decode jdk_91_method_1_code 0 = .ok (.aload_n 0, 1) := by decide +kernel
theorem d14_1 : decode jdk_91_method_1_code 1 = .ok (.invokespecial 1, 3) := by decide +kernel
theorem d14_4 : decode jdk_91_method_1_code 4 = .ok (.return_, 1) := by decide +kernel
theorem d15_0 : decode jdk_94_method_14_code 0 = .ok (.aload_n 0, 1) := by decide +kernel
theorem d15_1 : decode jdk_94_method_14_code 1 = .ok (.iload_n 1, 1) := by decide +kernel
theorem d15_2 : decode jdk_94_method_14_code 2 = .ok (.fload_n 2, 1) := by decide +kernel
theorem d15_3 : decode jdk_94_method_14_code 3 = .ok (.invokespecial 81, 3) := by decide +kernel
theorem d15_6 : decode jdk_94_method_14_code 6 = .ok (.aload_n 0, 1) := by decide +kernel
theorem d15_7 : decode jdk_94_method_14_code 7 = .ok (.iconst 0, 1) := by decide +kernel
theorem d15_8 : decode jdk_94_method_14_code 8 = .ok (.putfield 1, 3) := by decide +kernel
theorem d15_11 : decode jdk_94_method_14_code 11 = .ok (.aload_n 0, 1) := by decide +kernel
theorem d15_12 : decode jdk_94_method_14_code 12 = .ok (.iconst 0, 1) := by decide +kernel
theorem d15_13 : decode jdk_94_method_14_code 13 = .ok (.putfield 64, 3) := by decide +kernel
theorem d15_16 : decode jdk_94_method_14_code 16 = .ok (.return_, 1) := by decide +kernel
theorem d16_0 : decode jdk_69_method_5_code 0 = .ok (.aload_n 0, 1) := by decide +kernel
theorem d16_1 : decode jdk_69_method_5_code 1 = .ok (.invokespecial 43, 3) := by decide +kernel
theorem d16_4 : decode jdk_69_method_5_code 4 = .ok (.iload_n 1, 1) := by decide +kernel
theorem d16_5 : decode jdk_69_method_5_code 5 = .ok (.ifCond .ge 30, 3) := by decide +kernel
theorem d16_35 : decode jdk_69_method_5_code 35 = .ok (.iload_n 1, 1) := by decide +kernel
theorem d16_36 : decode jdk_69_method_5_code 36 = .ok (.ldc 42, 2) := by decide +kernel
theorem d16_38 : decode jdk_69_method_5_code 38 = .ok (.if_icmp .le 6, 3) := by decide +kernel
theorem d16_44 : decode jdk_69_method_5_code 44 = .ok (.fload_n 2, 1) := by decide +kernel
theorem d16_45 : decode jdk_69_method_5_code 45 = .ok (.fconst 0, 1) := by decide +kernel
theorem d16_46 : decode jdk_69_method_5_code 46 = .ok (.fcmp .g, 1) := by decide +kernel
theorem d16_47 : decode jdk_69_method_5_code 47 = .ok (.ifCond .le 10, 3) := by decide +kernel
theorem d16_50 : decode jdk_69_method_5_code 50 = .ok (.fload_n 2, 1) := by decide +kernel
theorem d16_51 : decode jdk_69_method_5_code 51 = .ok (.invokestatic 70, 3) := by decide +kernel
theorem d16_54 : decode jdk_69_method_5_code 54 = .ok (.ifCond .eq 30, 3) := by decide +kernel
theorem d16_84 : decode jdk_69_method_5_code 84 = .ok (.aload_n 0, 1) := by decide +kernel
theorem d16_85 : decode jdk_69_method_5_code 85 = .ok (.fload_n 2, 1) := by decide +kernel
theorem d16_86 : decode jdk_69_method_5_code 86 = .ok (.putfield 81, 3) := by decide +kernel
theorem d16_89 : decode jdk_69_method_5_code 89 = .ok (.aload_n 0, 1) := by decide +kernel
theorem d16_90 : decode jdk_69_method_5_code 90 = .ok (.iload_n 1, 1) := by decide +kernel
theorem d16_91 : decode jdk_69_method_5_code 91 = .ok (.invokestatic 85, 3) := by decide +kernel
theorem d16_94 : decode jdk_69_method_5_code 94 = .ok (.putfield 88, 3) := by decide +kernel
theorem d16_97 : decode jdk_69_method_5_code 97 = .ok (.return_, 1) := by decide +kernel
theorem d17_0 : decode jdk_118_method_6_code 0 = .ok (.fload_n 0, 1) := by decide +kernel
theorem d17_1 : decode jdk_118_method_6_code 1 = .ok (.fload_n 0, 1) := by decide +kernel
theorem d17_2 : decode jdk_118_method_6_code 2 = .ok (.fcmp .l, 1) := by decide +kernel
theorem d17_3 : decode jdk_118_method_6_code 3 = .ok (.ifCond .eq 7, 3) := by decide +kernel
theorem d17_10 : decode jdk_118_method_6_code 10 = .ok (.iconst 0, 1) := by decide +kernel
theorem d17_11 : decode jdk_118_method_6_code 11 = .ok (.ireturn, 1) := by decide +kernel
theorem d18_0 : decode jdk_69_method_4_code 0 = .ok (.iconst (-1), 1) := by decide +kernel
theorem d18_1 : decode jdk_69_method_4_code 1 = .ok (.iload_n 0, 1) := by decide +kernel
theorem d18_2 : decode jdk_69_method_4_code 2 = .ok (.iconst 1, 1) := by decide +kernel
theorem d18_3 : decode jdk_69_method_4_code 3 = .ok (.isub, 1) := by decide +kernel
theorem d18_4 : decode jdk_69_method_4_code 4 = .ok (.invokestatic 34, 3) := by decide +kernel
theorem d18_7 : decode jdk_69_method_4_code 7 = .ok (.iushr, 1) := by decide +kernel
theorem d18_8 : decode jdk_69_method_4_code 8 = .ok (.istore_n 1, 1) := by decide +kernel
theorem d18_9 : decode jdk_69_method_4_code 9 = .ok (.iload_n 1, 1) := by decide +kernel
theorem d18_10 : decode jdk_69_method_4_code 10 = .ok (.ifCond .ge 7, 3) := by decide +kernel
theorem d18_17 : decode jdk_69_method_4_code 17 = .ok (.iload_n 1, 1) := by decide +kernel
theorem d18_18 : decode jdk_69_method_4_code 18 = .ok (.ldc 42, 2) := by decide +kernel
theorem d18_20 : decode jdk_69_method_4_code 20 = .ok (.if_icmp .lt 8, 3) := by decide +kernel
theorem d18_28 : decode jdk_69_method_4_code 28 = .ok (.iload_n 1, 1) := by decide +kernel
theorem d18_29 : decode jdk_69_method_4_code 29 = .ok (.iconst 1, 1) := by decide +kernel
theorem d18_30 : decode jdk_69_method_4_code 30 = .ok (.iadd, 1) := by decide +kernel
theorem d18_31 : decode jdk_69_method_4_code 31 = .ok (.ireturn, 1) := by decide +kernel
theorem d19_0 : decode jdk_33_method_47_code 0 = .ok (.iload_n 0, 1) := by decide +kernel
theorem d19_1 : decode jdk_33_method_47_code 1 = .ok (.ifCond .gt 14, 3) := by decide +kernel
theorem d19_15 : decode jdk_33_method_47_code 15 = .ok (.bipush 31, 2) := by decide +kernel
theorem d19_17 : decode jdk_33_method_47_code 17 = .ok (.istore_n 1, 1) := by decide +kernel
theorem d19_18 : decode jdk_33_method_47_code 18 = .ok (.iload_n 0, 1) := by decide +kernel
theorem d19_19 : decode jdk_33_method_47_code 19 = .ok (.ldc_w 264, 3) := by decide +kernel
theorem d19_22 : decode jdk_33_method_47_code 22 = .ok (.if_icmp .lt 11, 3) := by decide +kernel
theorem d19_33 : decode jdk_33_method_47_code 33 = .ok (.iload_n 0, 1) := by decide +kernel
theorem d19_34 : decode jdk_33_method_47_code 34 = .ok (.sipush 256, 3) := by decide +kernel
theorem d19_37 : decode jdk_33_method_47_code 37 = .ok (.if_icmp .lt 11, 3) := by decide +kernel
theorem d19_48 : decode jdk_33_method_47_code 48 = .ok (.iload_n 0, 1) := by decide +kernel
theorem d19_49 : decode jdk_33_method_47_code 49 = .ok (.bipush 16, 2) := by decide +kernel
theorem d19_51 : decode jdk_33_method_47_code 51 = .ok (.if_icmp .lt 10, 3) := by decide +kernel
theorem d19_61 : decode jdk_33_method_47_code 61 = .ok (.iload_n 0, 1) := by decide +kernel
theorem d19_62 : decode jdk_33_method_47_code 62 = .ok (.iconst 4, 1) := by decide +kernel
theorem d19_63 : decode jdk_33_method_47_code 63 = .ok (.if_icmp .lt 10, 3) := by decide +kernel
theorem d19_66 : decode jdk_33_method_47_code 66 = .ok (.iinc 1 (-2), 3) := by decide +kernel
theorem d19_69 : decode jdk_33_method_47_code 69 = .ok (.iload_n 0, 1) := by decide +kernel
theorem d19_70 : decode jdk_33_method_47_code 70 = .ok (.iconst 2, 1) := by decide +kernel
theorem d19_71 : decode jdk_33_method_47_code 71 = .ok (.iushr, 1) := by decide +kernel
theorem d19_72 : decode jdk_33_method_47_code 72 = .ok (.istore_n 0, 1) := by decide +kernel
theorem d19_73 : decode jdk_33_method_47_code 73 = .ok (.iload_n 1, 1) := by decide +kernel
theorem d19_74 : decode jdk_33_method_47_code 74 = .ok (.iload_n 0, 1) := by decide +kernel
theorem d19_75 : decode jdk_33_method_47_code 75 = .ok (.iconst 1, 1) := by decide +kernel
theorem d19_76 : decode jdk_33_method_47_code 76 = .ok (.iushr, 1) := by decide +kernel
theorem d19_77 : decode jdk_33_method_47_code 77 = .ok (.isub, 1) := by decide +kernel
theorem d19_78 : decode jdk_33_method_47_code 78 = .ok (.ireturn, 1) := by decide +kernel
theorem d20_0 : decode prog_56_method_2_code 0 = .ok (.aload_n 0, 1) := by decide +kernel
theorem d20_1 : decode prog_56_method_2_code 1 = .ok (.getfield 37, 3) := by decide +kernel
theorem d20_4 : decode prog_56_method_2_code 4 = .ok (.ireturn, 1) := by decide +kernel
theorem pn_0 : plainName "java/util/AbstractMap" = true := by first | (simp [plainName, overriddenIn]; done) | decide +kernel
theorem pn_1 : plainName "java/util/AbstractCollection" = true := by first | (simp [plainName, overriddenIn]; done) | decide +kernel
theorem pn_2 : plainName "java/util/AbstractSet" = true := by first | (simp [plainName, overriddenIn]; done) | decide +kernel
theorem pn_3 : plainName "java/util/HashMap" = true := by first | (simp [plainName, overriddenIn]; done) | decide +kernel
theorem pn_4 : plainName "java/util/AbstractList" = true := by first | (simp [plainName, overriddenIn]; done) | decide +kernel
theorem pn_5 : plainName "java/util/ArrayList" = true := by first | (simp [plainName, overriddenIn]; done) | decide +kernel
theorem pn_6 : plainName "java/lang/Integer" = true := by first | (simp [plainName, overriddenIn]; done) | decide +kernel
theorem pn_7 : plainName "java/util/LinkedHashMap" = true := by first | (simp [plainName, overriddenIn]; done) | decide +kernel
theorem pn_8 : plainName "java/util/HashSet" = true := by first | (simp [plainName, overriddenIn]; done) | decide +kernel
theorem pn_9 : plainName "java/util/LinkedHashSet" = true := by first | (simp [plainName, overriddenIn]; done) | decide +kernel
theorem pn_10 : plainName "com/example/role_delegation/roledelegation/Hierarchy" = true := by first | (simp [plainName, overriddenIn]; done) | decide +kernel
theorem pn_11 : plainName "com/example/role_delegation/roledelegation/Role" = true := by first | (simp [plainName, overriddenIn]; done) | decide +kernel
theorem pn_12 : plainName "com/example/role_delegation/roledelegation/HierarchyNumberPinLaw" = true := by first | (simp [plainName, overriddenIn]; done) | decide +kernel
theorem pd_0 : parseMethodDescriptor "()V" = some ⟨[], none⟩ := by decide +kernel
theorem pd_1 : parseMethodDescriptor "(I)I" = some ⟨[.int], some .int⟩ := by decide +kernel
theorem pd_2 : parseMethodDescriptor "(F)Z" = some ⟨[.float], some .boolean⟩ := by decide +kernel
theorem pd_3 : parseMethodDescriptor "(IF)V" = some ⟨[.int, .float], none⟩ := by decide +kernel
theorem pd_4 : parseMethodDescriptor "(IFZ)V" = some ⟨[.int, .float, .boolean], none⟩ := by decide +kernel
theorem pd_5 : parseMethodDescriptor "()I" = some ⟨[], some .int⟩ := by decide +kernel
theorem pd_6 : parseMethodDescriptor "(Ljava/lang/String;Lcom/example/role_delegation/roledelegation/Hierarchy;)V" = some ⟨[(.object "java/lang/String"), (.object "com/example/role_delegation/roledelegation/Hierarchy")], none⟩ := by decide +kernel
theorem ef_rm4 (m : MethodId) (x0 : Addr) : entryFrame m #[(.ref x0)] 1 = mkF m 0 #[.val (.ref x0)] [] := by first | (simp [entryFrame, mkF, argsToLocals, Value.category]; done) | rfl
theorem ef_rm11 (m : MethodId) (x0 : Addr) : entryFrame m #[(.ref x0)] 1 = mkF m 0 #[.val (.ref x0)] [] := by first | (simp [entryFrame, mkF, argsToLocals, Value.category]; done) | rfl
theorem ef_rm14 (m : MethodId) (x0 : Addr) : entryFrame m #[(.ref x0)] 1 = mkF m 0 #[.val (.ref x0)] [] := by first | (simp [entryFrame, mkF, argsToLocals, Value.category]; done) | rfl
theorem ef_rm3 (m : MethodId) (x0 : Addr) : entryFrame m #[(.ref x0)] 1 = mkF m 0 #[.val (.ref x0)] [] := by first | (simp [entryFrame, mkF, argsToLocals, Value.category]; done) | rfl
theorem ef_rm10 (m : MethodId) (x0 : Addr) : entryFrame m #[(.ref x0)] 1 = mkF m 0 #[.val (.ref x0)] [] := by first | (simp [entryFrame, mkF, argsToLocals, Value.category]; done) | rfl
theorem ef_rm9 (m : MethodId) (x0 : Addr) : entryFrame m #[(.ref x0)] 1 = mkF m 0 #[.val (.ref x0)] [] := by first | (simp [entryFrame, mkF, argsToLocals, Value.category]; done) | rfl
theorem ef_rm17 (m : MethodId) (x0 : UInt32) : entryFrame m #[(.float x0)] 1 = mkF m 0 #[.val (.float x0)] [] := by first | (simp [entryFrame, mkF, argsToLocals, Value.category]; done) | rfl
theorem pf_rm17 : plainFor (⟨"java/lang/Float", "isNaN", "(F)Z"⟩ : MethodName) = true := by decide +kernel
theorem ef_rm19 (m : MethodId) (x0 : Int32) : entryFrame m #[(.int x0)] 2 = mkF m 0 #[.val (.int x0), .unset] [] := by first | (simp [entryFrame, mkF, argsToLocals, Value.category]; done) | rfl
theorem ef_rm18 (m : MethodId) (x0 : Int32) : entryFrame m #[(.int x0)] 2 = mkF m 0 #[.val (.int x0), .unset] [] := by first | (simp [entryFrame, mkF, argsToLocals, Value.category]; done) | rfl
theorem ef_rm16 (m : MethodId) (x0 : Addr) (x1 : Int32) (x2 : UInt32) : entryFrame m #[(.ref x0), (.int x1), (.float x2)] 3 = mkF m 0 #[.val (.ref x0), .val (.int x1), .val (.float x2)] [] := by first | (simp [entryFrame, mkF, argsToLocals, Value.category]; done) | rfl
theorem ef_rm15 (m : MethodId) (x0 : Addr) (x1 : Int32) (x2 : UInt32) : entryFrame m #[(.ref x0), (.int x1), (.float x2)] 3 = mkF m 0 #[.val (.ref x0), .val (.int x1), .val (.float x2)] [] := by first | (simp [entryFrame, mkF, argsToLocals, Value.category]; done) | rfl
theorem ef_rm13 (m : MethodId) (x0 : Addr) (x1 : Int32) (x2 : UInt32) (x3 : Int32) : entryFrame m #[(.ref x0), (.int x1), (.float x2), (.int x3)] 4 = mkF m 0 #[.val (.ref x0), .val (.int x1), .val (.float x2), .val (.int x3)] [] := by first | (simp [entryFrame, mkF, argsToLocals, Value.category]; done) | rfl
theorem ef_rm12 (m : MethodId) (x0 : Addr) : entryFrame m #[(.ref x0)] 1 = mkF m 0 #[.val (.ref x0)] [] := by first | (simp [entryFrame, mkF, argsToLocals, Value.category]; done) | rfl
theorem ef_rm1 (m : MethodId) (x0 : Addr) : entryFrame m #[(.ref x0)] 1 = mkF m 0 #[.val (.ref x0)] [] := by first | (simp [entryFrame, mkF, argsToLocals, Value.category]; done) | rfl
theorem ef_rm5 (m : MethodId) (x0 : Addr) : entryFrame m #[(.ref x0)] 1 = mkF m 0 #[.val (.ref x0)] [] := by first | (simp [entryFrame, mkF, argsToLocals, Value.category]; done) | rfl
theorem ef_rm7 (m : MethodId) (x0 : Addr) : entryFrame m #[(.ref x0)] 1 = mkF m 0 #[.val (.ref x0)] [] := by first | (simp [entryFrame, mkF, argsToLocals, Value.category]; done) | rfl
theorem ef_rm6 (m : MethodId) (x0 : Addr) : entryFrame m #[(.ref x0)] 1 = mkF m 0 #[.val (.ref x0)] [] := by first | (simp [entryFrame, mkF, argsToLocals, Value.category]; done) | rfl
theorem ef_rm8 (m : MethodId) (x0 : Addr) (x1 : Addr) (x2 : Addr) : entryFrame m #[(.ref x0), (.ref x1), (.ref x2)] 3 = mkF m 0 #[.val (.ref x0), .val (.ref x1), .val (.ref x2)] [] := by first | (simp [entryFrame, mkF, argsToLocals, Value.category]; done) | rfl
theorem ef_rm20 (m : MethodId) (x0 : Addr) : entryFrame m #[(.ref x0)] 1 = mkF m 0 #[.val (.ref x0)] [] := by first | (simp [entryFrame, mkF, argsToLocals, Value.category]; done) | rfl
theorem ef_rm0 (m : MethodId) (x0 : Int32) : entryFrame m #[(.int x0)] maxLocals = mkF m 0 #[.val (.int x0), .unset, .unset, .unset, .unset, .unset, .unset, .unset, .unset] [] := by first | (simp [entryFrame, mkF, argsToLocals, Value.category, maxLocals]; done) | rfl
def Qn (h0 : Heap) (n0 : Nat) (v : Option Value) (h : Heap) (L : List Loc) : Prop := v = none ∧ Fr n0 L ∧ h = h0
def Qr (r : Value) (h0 : Heap) (n0 : Nat) (v : Option Value) (h : Heap) (L : List Loc) : Prop := v = some r ∧ Fr n0 L ∧ h = h0
theorem own_fcmp {p : Program} {l : Launch} {e : Env} {R : Room} {s : State} {m : MethodId} {args : Array Value} {below : List Frame} {meth : Method} {c : Code} {T target : State} {locs : List Loc} {cells slots : Nat} (X : Stand p l e R s m args below meth c T locs cells slots) (hx : p.tables.exec = Jvm.exec) {g : JFrame} (hg : g.method = m) {op : CmpOp} {x y : UInt32} {rest : List Value} (hd : decode c.code g.pc = .ok (.fcmp op, 1)) (hs : g.stack = .float y :: .float x :: rest) {z : Int32} (hz : cmpValue (FP.fcmp x y) op = z)
    (hr : Steps p.tables e below (T.setTop { g with pc := g.pc + 1, stack := .int z :: rest }) target) : Steps p.tables e below (T.setTop g) target := by
  subst hg hz
  jvm_step X.here [X.here.top, hx, hd, hs]
  exact hr
theorem own_eqI {args : Array Value} {s : State} {t : Term} {k : Int32} (h : (Jvm.Cond.eq t (.int k)).value args s none s [] = some true) : t.eval args s none [] s = some (.int k) := by
  simp only [Cond.value, Term.eval] at h
  cases ht : t.eval args s none [] s with
  | none => simp [ht] at h
  | some x => cases x <;> simp [ht] at h ⊢; exact h
theorem own_eqR {args : Array Value} {s : State} {t u : Term} {b : Addr} (h : (Jvm.Cond.eq t u).value args s none s [] = some true) (hu : u.eval args s none [] s = some (.ref b)) : t.eval args s none [] s = some (.ref b) := by
  simp only [Cond.value, hu] at h
  cases ht : t.eval args s none [] s with
  | none => simp [ht] at h
  | some x => cases x <;> simp [ht] at h ⊢; exact h
theorem own_arv {args : Array Value} {s : State} {t : Term} {a : Addr} {cl : Cell} {ty : FieldType} {z : Int32} (A : Arr s s.heap a cl ty) (ht : t.eval args s none [] s = some (.ref a)) (hl : (Term.length t).eval args s none [] s = some (.int z)) : cl.slots.size < 2 ^ 31 ∧ cl.slots.size.toInt32 = z := by
  obtain ⟨b, cell, e1, e2, h31, e3⟩ := Jvm.Lib.length_spec hl
  cases ht.symm.trans e1
  have e4 := A.fin (Vm.Alike.refl _)
  cases e4.symm.trans e2
  exact ⟨h31, (Value.int.inj e3).symm⟩
set_option maxRecDepth 65536 in
set_option maxHeartbeats 40000000 in
theorem rm4 (l : Launch) (Z : State) (a0 : Array Value) (hw : ∀ d ∈ tables_1, d.before a0 Z = true) (ws : List Jvm.Cond) (a : Addr) (h0 : Heap) (n0 : Nat) (Z0 : n0 ≤ h0.size) :
    MetFree l (⟨"java/util/AbstractMap", "<init>", "()V"⟩ : MethodName) (head1 (Jvm.Cond.code (⟨"java/util/AbstractMap", "<init>", "()V"⟩ : MethodName) jdk_71_method_1_code 1 none :: ws) ({ frames := 1, cells := 0, slots := 0, locals := 12 } : Room)) (fun aa UU => aa = #[(.ref a)] ∧ Z.Warmed39 UU.vm ∧ UU.heap = h0) (fun _ _ _ _ _ => True) (fun _ UU oo U' => ∃ v L, oo = .returned v ∧ Qn h0 n0 v U'.heap L ∧ FrameEnd UU oo U' L ({ frames := 1, cells := 0, slots := 0, locals := 12 } : Room).cells ({ frames := 1, cells := 0, slots := 0, locals := 12 } : Room).slots) := by
  refine MetFree.of_bodySF (plainFor_of_name pn_0) hisR ?_
  intro p e s m args below meth c s₁ Bd hml0 hP hK
  obtain ⟨rfl, hZ, hh⟩ := hP
  have hx := Bd.exec
  have hby := Bd.bytes
  have hml : c.maxLocals = 1 := hml0
  have hown : s.vm.findClass "java/util/AbstractMap" = some m.cls := findClass_of_methodNamed Bd.named
  have hnm := (name_of_methodNamed Bd.named Bd.method).1
  have X0 : Stand p l e ({ frames := 1, cells := 0, slots := 0, locals := 12 } : Room) s m #[(.ref a)] below meth c s₁ [] 0 0 := Stand.of_body Bd
  have e0 : s₁.heap = h0 := by rw [← hh, Bd.state]; rfl
  have N0 := Fr.nil n0
  obtain ⟨A0, hA0⟩ : ∃ A, A = s₁.setTop (entryFrame m #[(.ref a)] 1) := ⟨_, rfl⟩
  have G0 : Go p e below A0 (s₁.setTop (mkF m 0 #[.val (.ref a)] [])) := fun tq kq => by rw [hA0]; exact castTop (ef_rm4 m a) kq
  have G1 : Go p e below A0 (s₁.setTop (mkF m 1 #[.val (.ref a)] [(.ref a)])) := fun tq kq => G0 tq (by
    refine XS.aloadN X0.here hx rfl (hb hby d4_0) rfl rfl ?_
    show Steps p.tables e below (s₁.setTop (mkF m 1 #[.val (.ref a)] [(.ref a)])) _
    exact kq)
  obtain ⟨T2, X2, e2, st2⟩ := initO X0 hx hZ hown (hw _ (List.mem_of_getElem? (i := 21) rfl)) (hw _ (List.mem_of_getElem? (i := 7) rfl)) (hw _ (List.mem_of_getElem? (i := 8) rfl)) e0 (g := (mkF m 1 #[.val (.ref a)] [(.ref a)])) rfl (by rw [hml]; rfl) rfl (hb hby d4_1) (by decide) (W := 0) (by show 2 * 0 + _ ≤ _; exact Nat.le_of_eq rfl) (by decide)
  have G3 : Go p e below A0 (T2.setTop (mkF m 4 #[.val (.ref a)] [])) := fun tq kq => G1 tq (st2 _ kq)
  obtain ⟨fs, hr, hrun, hended, hW, hsame⟩ := X2.leave (v := none) (fun _ => rfl)
  refine ⟨_, _, (by rw [← hA0]; exact G3 _ (X2.returnOut hx Bd.returns (hb hby d4_4) hr)), hrun, hended, _, _, rfl, ?_, ⟨_, rfl⟩, hW, hsame.mono (by decide) (by decide)⟩
  exact ⟨rfl, N0, e2⟩
set_option maxRecDepth 65536 in
set_option maxHeartbeats 40000000 in
theorem rm11 (l : Launch) (Z : State) (a0 : Array Value) (hw : ∀ d ∈ tables_1, d.before a0 Z = true) (ws : List Jvm.Cond) (a : Addr) (h0 : Heap) (n0 : Nat) (Z0 : n0 ≤ h0.size) :
    MetFree l (⟨"java/util/AbstractCollection", "<init>", "()V"⟩ : MethodName) (head1 (Jvm.Cond.code (⟨"java/util/AbstractCollection", "<init>", "()V"⟩ : MethodName) jdk_22_method_1_code 1 none :: ws) ({ frames := 1, cells := 0, slots := 0, locals := 12 } : Room)) (fun aa UU => aa = #[(.ref a)] ∧ Z.Warmed39 UU.vm ∧ UU.heap = h0) (fun _ _ _ _ _ => True) (fun _ UU oo U' => ∃ v L, oo = .returned v ∧ Qn h0 n0 v U'.heap L ∧ FrameEnd UU oo U' L ({ frames := 1, cells := 0, slots := 0, locals := 12 } : Room).cells ({ frames := 1, cells := 0, slots := 0, locals := 12 } : Room).slots) := by
  refine MetFree.of_bodySF (plainFor_of_name pn_1) hisR ?_
  intro p e s m args below meth c s₁ Bd hml0 hP hK
  obtain ⟨rfl, hZ, hh⟩ := hP
  have hx := Bd.exec
  have hby := Bd.bytes
  have hml : c.maxLocals = 1 := hml0
  have hown : s.vm.findClass "java/util/AbstractCollection" = some m.cls := findClass_of_methodNamed Bd.named
  have hnm := (name_of_methodNamed Bd.named Bd.method).1
  have X0 : Stand p l e ({ frames := 1, cells := 0, slots := 0, locals := 12 } : Room) s m #[(.ref a)] below meth c s₁ [] 0 0 := Stand.of_body Bd
  have e0 : s₁.heap = h0 := by rw [← hh, Bd.state]; rfl
  have N0 := Fr.nil n0
  obtain ⟨A0, hA0⟩ : ∃ A, A = s₁.setTop (entryFrame m #[(.ref a)] 1) := ⟨_, rfl⟩
  have G0 : Go p e below A0 (s₁.setTop (mkF m 0 #[.val (.ref a)] [])) := fun tq kq => by rw [hA0]; exact castTop (ef_rm11 m a) kq
  have G4 : Go p e below A0 (s₁.setTop (mkF m 1 #[.val (.ref a)] [(.ref a)])) := fun tq kq => G0 tq (by
    refine XS.aloadN X0.here hx rfl (hb hby d11_0) rfl rfl ?_
    show Steps p.tables e below (s₁.setTop (mkF m 1 #[.val (.ref a)] [(.ref a)])) _
    exact kq)
  obtain ⟨T5, X5, e5, st5⟩ := initO X0 hx hZ hown (hw _ (List.mem_of_getElem? (i := 79) rfl)) (hw _ (List.mem_of_getElem? (i := 7) rfl)) (hw _ (List.mem_of_getElem? (i := 8) rfl)) e0 (g := (mkF m 1 #[.val (.ref a)] [(.ref a)])) rfl (by rw [hml]; rfl) rfl (hb hby d11_1) (by decide) (W := 0) (by show 2 * 0 + _ ≤ _; exact Nat.le_of_eq rfl) (by decide)
  have G6 : Go p e below A0 (T5.setTop (mkF m 4 #[.val (.ref a)] [])) := fun tq kq => G4 tq (st5 _ kq)
  obtain ⟨fs, hr, hrun, hended, hW, hsame⟩ := X5.leave (v := none) (fun _ => rfl)
  refine ⟨_, _, (by rw [← hA0]; exact G6 _ (X5.returnOut hx Bd.returns (hb hby d11_4) hr)), hrun, hended, _, _, rfl, ?_, ⟨_, rfl⟩, hW, hsame.mono (by decide) (by decide)⟩
  exact ⟨rfl, N0, e5⟩
set_option maxRecDepth 65536 in
set_option maxHeartbeats 40000000 in
theorem rm14 (l : Launch) (Z : State) (a0 : Array Value) (hw : ∀ d ∈ tables_1, d.before a0 Z = true) (ws : List Jvm.Cond) (a : Addr) (h0 : Heap) (n0 : Nat) (Z0 : n0 ≤ h0.size) :
    MetFree l (⟨"java/util/AbstractSet", "<init>", "()V"⟩ : MethodName) (head1 (Jvm.Cond.code (⟨"java/util/AbstractSet", "<init>", "()V"⟩ : MethodName) jdk_91_method_1_code 1 none :: ws) ({ frames := 2, cells := 0, slots := 0, locals := 24 } : Room)) (fun aa UU => aa = #[(.ref a)] ∧ Z.Warmed39 UU.vm ∧ UU.heap = h0) (fun _ _ _ _ _ => True) (fun _ UU oo U' => ∃ v L, oo = .returned v ∧ Qn h0 n0 v U'.heap L ∧ FrameEnd UU oo U' L ({ frames := 2, cells := 0, slots := 0, locals := 24 } : Room).cells ({ frames := 2, cells := 0, slots := 0, locals := 24 } : Room).slots) := by
  refine MetFree.of_bodySF (plainFor_of_name pn_2) hisR ?_
  intro p e s m args below meth c s₁ Bd hml0 hP hK
  obtain ⟨rfl, hZ, hh⟩ := hP
  have hx := Bd.exec
  have hby := Bd.bytes
  have hml : c.maxLocals = 1 := hml0
  have hown : s.vm.findClass "java/util/AbstractSet" = some m.cls := findClass_of_methodNamed Bd.named
  have hnm := (name_of_methodNamed Bd.named Bd.method).1
  have X0 : Stand p l e ({ frames := 2, cells := 0, slots := 0, locals := 24 } : Room) s m #[(.ref a)] below meth c s₁ [] 0 0 := Stand.of_body Bd
  have e0 : s₁.heap = h0 := by rw [← hh, Bd.state]; rfl
  have N0 := Fr.nil n0
  obtain ⟨A0, hA0⟩ : ∃ A, A = s₁.setTop (entryFrame m #[(.ref a)] 1) := ⟨_, rfl⟩
  have G0 : Go p e below A0 (s₁.setTop (mkF m 0 #[.val (.ref a)] [])) := fun tq kq => by rw [hA0]; exact castTop (ef_rm14 m a) kq
  have G7 : Go p e below A0 (s₁.setTop (mkF m 1 #[.val (.ref a)] [(.ref a)])) := fun tq kq => G0 tq (by
    refine XS.aloadN X0.here hx rfl (hb hby d14_0) rfl rfl ?_
    show Steps p.tables e below (s₁.setTop (mkF m 1 #[.val (.ref a)] [(.ref a)])) _
    exact kq)
  obtain ⟨_, _, ⟨T8, L8, k8, n8⟩, -, X8, ⟨Lc8, hQ8, l8, y8, z8⟩, st8⟩ := X0.specialBack hx (y := (⟨"java/util/AbstractCollection", "<init>", "()V"⟩ : MethodName)) rfl hown (mvT hZ (hw _ (List.mem_of_getElem? (i := 106) rfl))) (mvT hZ (hw _ (List.mem_of_getElem? (i := 74) rfl))) (mvT hZ (hw _ (List.mem_of_getElem? (i := 78) rfl))) (by decide) (backOf (W := 0) (rm11 l Z a0 hw [] a h0 n0 Z0) hZ (hw _ (List.mem_of_getElem? (i := 78) rfl)) (hw _ (List.mem_of_getElem? (i := 77) rfl)) (by decide) (by decide)) (g := (mkF m 1 #[.val (.ref a)] [(.ref a)])) rfl (by rw [hml]; rfl) (Steps.refl _) (a := a) (argsL := []) (rest := []) (lenOf pd_0 rfl) rfl (by show 2 * 0 + _ ≤ _; exact Nat.le_of_eq rfl) (hb hby d14_1) (fun _ _ => ⟨rfl, e0, (by decide : 0 + 0 ≤ _), (by decide : 0 + 0 ≤ _)⟩)
  dsimp only [Pt.U, Pt.locs, Pt.cells, Pt.slots] at X8 l8 y8 z8 st8 hQ8
  obtain rfl : k8 = 0 := y8
  obtain rfl : n8 = 0 := z8
  obtain ⟨rfl, N8q, e8⟩ := hQ8
  have N8 : Fr n0 L8 := by rw [l8]; exact Fr.app N0 N8q
  have G9 : Go p e below A0 (T8.setTop (mkF m 4 #[.val (.ref a)] [])) := fun tq kq => G7 tq (st8.trans kq)
  obtain ⟨fs, hr, hrun, hended, hW, hsame⟩ := X8.leave (v := none) (fun _ => rfl)
  refine ⟨_, _, (by rw [← hA0]; exact G9 _ (X8.returnOut hx Bd.returns (hb hby d14_4) hr)), hrun, hended, _, _, rfl, ?_, ⟨_, rfl⟩, hW, hsame.mono (by decide) (by decide)⟩
  exact ⟨rfl, N8, e8⟩
def Qc3 (Z : State) (a : Addr) (h0 : Heap) (n0 : Nat) (v : Option Value) (h : Heap) (L : List Loc) : Prop := v = none ∧ Fr n0 L ∧ Keep h0 h [a] ∧ (∃ x, Fld Z h a "java/util/HashMap" "loadFactor" "F" x)
set_option maxRecDepth 65536 in
set_option maxHeartbeats 40000000 in
theorem rm3 (l : Launch) (Z : State) (a0 : Array Value) (hw : ∀ d ∈ tables_1, d.before a0 Z = true) (ws : List Jvm.Cond) (a : Addr)   (h0 : Heap) (n0 : Nat) (Z0 : n0 ≤ h0.size) (E : Exa Z h0 a "java/util/HashMap") (ga : n0 ≤ a) (hF0 : ∃ x, Fld Z h0 a "java/util/HashMap" "loadFactor" "F" x) :
    MetFree l (⟨"java/util/HashMap", "<init>", "()V"⟩ : MethodName) (head1 (Jvm.Cond.code (⟨"java/util/HashMap", "<init>", "()V"⟩ : MethodName) jdk_69_method_7_code 1 none :: ws) ({ frames := 2, cells := 0, slots := 0, locals := 24 } : Room)) (fun aa UU => aa = #[(.ref a)] ∧ Z.Warmed39 UU.vm ∧ UU.heap = h0) (fun _ _ _ _ _ => True) (fun _ UU oo U' => ∃ v L, oo = .returned v ∧ Qc3 Z a h0 n0 v U'.heap L ∧ FrameEnd UU oo U' L ({ frames := 2, cells := 0, slots := 0, locals := 24 } : Room).cells ({ frames := 2, cells := 0, slots := 0, locals := 24 } : Room).slots) := by
  refine MetFree.of_bodySF (plainFor_of_name pn_3) hisR ?_
  intro p e s m args below meth c s₁ Bd hml0 hP hK
  obtain ⟨rfl, hZ, hh⟩ := hP
  have hx := Bd.exec
  have hby := Bd.bytes
  have hml : c.maxLocals = 1 := hml0
  have hown : s.vm.findClass "java/util/HashMap" = some m.cls := findClass_of_methodNamed Bd.named
  have hnm := (name_of_methodNamed Bd.named Bd.method).1
  have X0 : Stand p l e ({ frames := 2, cells := 0, slots := 0, locals := 24 } : Room) s m #[(.ref a)] below meth c s₁ [] 0 0 := Stand.of_body Bd
  have e0 : s₁.heap = h0 := by rw [← hh, Bd.state]; rfl
  have N0 := Fr.nil n0
  obtain ⟨A0, hA0⟩ : ∃ A, A = s₁.setTop (entryFrame m #[(.ref a)] 1) := ⟨_, rfl⟩
  have G0 : Go p e below A0 (s₁.setTop (mkF m 0 #[.val (.ref a)] [])) := fun tq kq => by rw [hA0]; exact castTop (ef_rm3 m a) kq
  obtain ⟨u0, F0⟩ := hF0
  have G10 : Go p e below A0 (s₁.setTop (mkF m 1 #[.val (.ref a)] [(.ref a)])) := fun tq kq => G0 tq (by
    refine XS.aloadN X0.here hx rfl (hb hby d3_0) rfl rfl ?_
    show Steps p.tables e below (s₁.setTop (mkF m 1 #[.val (.ref a)] [(.ref a)])) _
    exact kq)
  obtain ⟨_, _, ⟨T11, L11, k11, n11⟩, -, X11, ⟨Lc11, hQ11, l11, y11, z11⟩, st11⟩ := X0.specialBack hx (y := (⟨"java/util/AbstractMap", "<init>", "()V"⟩ : MethodName)) rfl hown (mvT hZ (hw _ (List.mem_of_getElem? (i := 15) rfl))) (mvT hZ (hw _ (List.mem_of_getElem? (i := 16) rfl))) (mvT hZ (hw _ (List.mem_of_getElem? (i := 20) rfl))) (by decide) (backOf (W := 0) (rm4 l Z a0 hw [] a h0 n0 Z0) hZ (hw _ (List.mem_of_getElem? (i := 20) rfl)) (hw _ (List.mem_of_getElem? (i := 19) rfl)) (by decide) (by decide)) (g := (mkF m 1 #[.val (.ref a)] [(.ref a)])) rfl (by rw [hml]; rfl) (Steps.refl _) (a := a) (argsL := []) (rest := []) (lenOf pd_0 rfl) rfl (by show 2 * 0 + _ ≤ _; exact Nat.le_of_eq rfl) (hb hby d3_1) (fun _ _ => ⟨rfl, e0, (by decide : 0 + 0 ≤ _), (by decide : 0 + 0 ≤ _)⟩)
  dsimp only [Pt.U, Pt.locs, Pt.cells, Pt.slots] at X11 l11 y11 z11 st11 hQ11
  obtain rfl : k11 = 0 := y11
  obtain rfl : n11 = 0 := z11
  obtain ⟨rfl, N11q, e11⟩ := hQ11
  have N11 : Fr n0 L11 := by rw [l11]; exact Fr.app N0 N11q
  have G12 : Go p e below A0 (T11.setTop (mkF m 4 #[.val (.ref a)] [])) := fun tq kq => G10 tq (st11.trans kq)
  have G13 : Go p e below A0 (T11.setTop (mkF m 7 #[.val (.ref a)] [(.float (1061158912 : UInt32)), (.ref a)])) := fun tq kq => G12 tq (by
    refine XS.aloadN X11.here hx rfl (hb hby d3_4) rfl rfl ?_
    show Steps p.tables e below (T11.setTop (mkF m 5 #[.val (.ref a)] [(.ref a)])) _
    refine X11.ldcFloatC hx hown (mvT hZ (hw _ (List.mem_of_getElem? (i := 22) rfl))) (g := (mkF m 5 #[.val (.ref a)] [(.ref a)])) rfl (hb hby d3_5) _ ?_
    show Steps p.tables e below (T11.setTop (mkF m 7 #[.val (.ref a)] [(.float (1061158912 : UInt32)), (.ref a)])) _
    exact kq)
  obtain ⟨T14, h14, X14, e14, W14, st14⟩ := putF X11 hx hZ hown (host := "") (Or.inl (hw _ (List.mem_of_getElem? (i := 23) rfl))) Via.refl e11 F0 E (Or.inr ⟨(hw _ (List.mem_of_getElem? (i := 24) rfl)), rfl, hnm⟩) (hw _ (List.mem_of_getElem? (i := 10) rfl)) (ty := .float) (by decide) rfl rfl (g := (mkF m 7 #[.val (.ref a)] [(.float (1061158912 : UInt32)), (.ref a)])) rfl rfl (hb hby d3_7)
  have N14 := Fr.snoc X14 N11 ga
  have fw14 := F0.same W14
  have G15 : Go p e below A0 (T14.setTop (mkF m 10 #[.val (.ref a)] [])) := fun tq kq => G13 tq (st14 _ kq)
  obtain ⟨fs, hr, hrun, hended, hW, hsame⟩ := X14.leave (v := none) (fun _ => rfl)
  refine ⟨_, _, (by rw [← hA0]; exact G15 _ (X14.returnOut hx Bd.returns (hb hby d3_10) hr)), hrun, hended, _, _, rfl, ?_, ⟨_, rfl⟩, hW, hsame.mono (by decide) (by decide)⟩
  show Qc3 Z a h0 n0 _ T14.heap _
  rw [e14]
  exact ⟨rfl, N14, ((Keep.refl h0 [a]).wr W14 (Or.inl (List.mem_of_getElem? (i := 0) rfl))), ⟨_, fw14⟩⟩
def Qc10 (Z : State) (a : Addr) (h0 : Heap) (n0 : Nat) (v : Option Value) (h : Heap) (L : List Loc) : Prop := v = none ∧ Fr n0 L ∧ Keep h0 h [a] ∧ (∃ x, Fld Z h a "java/util/AbstractList" "modCount" "I" x) ∧ (∃ x, Fld Z h a "java/util/ArrayList" "elementData" "[Ljava/lang/Object;" x)
set_option maxRecDepth 65536 in
set_option maxHeartbeats 40000000 in
theorem rm10 (l : Launch) (Z : State) (a0 : Array Value) (hw : ∀ d ∈ tables_1, d.before a0 Z = true) (ws : List Jvm.Cond) (a : Addr)   (h0 : Heap) (n0 : Nat) (Z0 : n0 ≤ h0.size) (E : Exa Z h0 a "java/util/ArrayList") (ga : n0 ≤ a) (hF0 : ∃ x, Fld Z h0 a "java/util/AbstractList" "modCount" "I" x) (hF1 : ∃ x, Fld Z h0 a "java/util/ArrayList" "elementData" "[Ljava/lang/Object;" x) :
    MetFree l (⟨"java/util/AbstractList", "<init>", "()V"⟩ : MethodName) (head1 (Jvm.Cond.code (⟨"java/util/AbstractList", "<init>", "()V"⟩ : MethodName) jdk_39_method_1_code 1 none :: ws) ({ frames := 2, cells := 0, slots := 0, locals := 24 } : Room)) (fun aa UU => aa = #[(.ref a)] ∧ Z.Warmed39 UU.vm ∧ UU.heap = h0) (fun _ _ _ _ _ => True) (fun _ UU oo U' => ∃ v L, oo = .returned v ∧ Qc10 Z a h0 n0 v U'.heap L ∧ FrameEnd UU oo U' L ({ frames := 2, cells := 0, slots := 0, locals := 24 } : Room).cells ({ frames := 2, cells := 0, slots := 0, locals := 24 } : Room).slots) := by
  refine MetFree.of_bodySF (plainFor_of_name pn_4) hisR ?_
  intro p e s m args below meth c s₁ Bd hml0 hP hK
  obtain ⟨rfl, hZ, hh⟩ := hP
  have hx := Bd.exec
  have hby := Bd.bytes
  have hml : c.maxLocals = 1 := hml0
  have hown : s.vm.findClass "java/util/AbstractList" = some m.cls := findClass_of_methodNamed Bd.named
  have hnm := (name_of_methodNamed Bd.named Bd.method).1
  have X0 : Stand p l e ({ frames := 2, cells := 0, slots := 0, locals := 24 } : Room) s m #[(.ref a)] below meth c s₁ [] 0 0 := Stand.of_body Bd
  have e0 : s₁.heap = h0 := by rw [← hh, Bd.state]; rfl
  have N0 := Fr.nil n0
  obtain ⟨A0, hA0⟩ : ∃ A, A = s₁.setTop (entryFrame m #[(.ref a)] 1) := ⟨_, rfl⟩
  have G0 : Go p e below A0 (s₁.setTop (mkF m 0 #[.val (.ref a)] [])) := fun tq kq => by rw [hA0]; exact castTop (ef_rm10 m a) kq
  obtain ⟨u0, F0⟩ := hF0
  obtain ⟨u1, F1⟩ := hF1
  have G16 : Go p e below A0 (s₁.setTop (mkF m 1 #[.val (.ref a)] [(.ref a)])) := fun tq kq => G0 tq (by
    refine XS.aloadN X0.here hx rfl (hb hby d10_0) rfl rfl ?_
    show Steps p.tables e below (s₁.setTop (mkF m 1 #[.val (.ref a)] [(.ref a)])) _
    exact kq)
  obtain ⟨_, _, ⟨T17, L17, k17, n17⟩, -, X17, ⟨Lc17, hQ17, l17, y17, z17⟩, st17⟩ := X0.specialBack hx (y := (⟨"java/util/AbstractCollection", "<init>", "()V"⟩ : MethodName)) rfl hown (mvT hZ (hw _ (List.mem_of_getElem? (i := 73) rfl))) (mvT hZ (hw _ (List.mem_of_getElem? (i := 74) rfl))) (mvT hZ (hw _ (List.mem_of_getElem? (i := 78) rfl))) (by decide) (backOf (W := 0) (rm11 l Z a0 hw [] a h0 n0 Z0) hZ (hw _ (List.mem_of_getElem? (i := 78) rfl)) (hw _ (List.mem_of_getElem? (i := 77) rfl)) (by decide) (by decide)) (g := (mkF m 1 #[.val (.ref a)] [(.ref a)])) rfl (by rw [hml]; rfl) (Steps.refl _) (a := a) (argsL := []) (rest := []) (lenOf pd_0 rfl) rfl (by show 2 * 0 + _ ≤ _; exact Nat.le_of_eq rfl) (hb hby d10_1) (fun _ _ => ⟨rfl, e0, (by decide : 0 + 0 ≤ _), (by decide : 0 + 0 ≤ _)⟩)
  dsimp only [Pt.U, Pt.locs, Pt.cells, Pt.slots] at X17 l17 y17 z17 st17 hQ17
  obtain rfl : k17 = 0 := y17
  obtain rfl : n17 = 0 := z17
  obtain ⟨rfl, N17q, e17⟩ := hQ17
  have N17 : Fr n0 L17 := by rw [l17]; exact Fr.app N0 N17q
  have G18 : Go p e below A0 (T17.setTop (mkF m 4 #[.val (.ref a)] [])) := fun tq kq => G16 tq (st17.trans kq)
  have G19 : Go p e below A0 (T17.setTop (mkF m 6 #[.val (.ref a)] [(.int (0 : Int32)), (.ref a)])) := fun tq kq => G18 tq (by
    refine XS.aloadN X17.here hx rfl (hb hby d10_4) rfl rfl ?_
    show Steps p.tables e below (T17.setTop (mkF m 5 #[.val (.ref a)] [(.ref a)])) _
    refine XS.iconst X17.here hx rfl (hb hby d10_5) ?_
    show Steps p.tables e below (T17.setTop (mkF m 6 #[.val (.ref a)] [(.int (0 : Int32)), (.ref a)])) _
    exact kq)
  obtain ⟨T20, h20, X20, e20, W20, st20⟩ := putF X17 hx hZ hown (host := "") (Or.inl (hw _ (List.mem_of_getElem? (i := 80) rfl))) Via.refl e17 F0 E (Or.inl (hw _ (List.mem_of_getElem? (i := 81) rfl))) (hw _ (List.mem_of_getElem? (i := 62) rfl)) (ty := .int) (by decide) rfl rfl (g := (mkF m 6 #[.val (.ref a)] [(.int (0 : Int32)), (.ref a)])) rfl rfl (hb hby d10_6)
  have N20 := Fr.snoc X20 N17 ga
  have fw20 := F0.same W20
  have G21 : Go p e below A0 (T20.setTop (mkF m 9 #[.val (.ref a)] [])) := fun tq kq => G19 tq (st20 _ kq)
  have f22 := (F1.other W20 (Or.inr (slot_ne (Or.inl (hw _ (List.mem_of_getElem? (i := 84) rfl))) (Or.inl (hw _ (List.mem_of_getElem? (i := 81) rfl))) (by decide) (t := (.array (.object "java/lang/Object"))) (t' := .int) (by decide) (by decide))))
  obtain ⟨fs, hr, hrun, hended, hW, hsame⟩ := X20.leave (v := none) (fun _ => rfl)
  refine ⟨_, _, (by rw [← hA0]; exact G21 _ (X20.returnOut hx Bd.returns (hb hby d10_9) hr)), hrun, hended, _, _, rfl, ?_, ⟨_, rfl⟩, hW, hsame.mono (by decide) (by decide)⟩
  show Qc10 Z a h0 n0 _ T20.heap _
  rw [e20]
  exact ⟨rfl, N20, ((Keep.refl h0 [a]).wr W20 (Or.inl (List.mem_of_getElem? (i := 0) rfl))), ⟨_, fw20⟩, ⟨_, f22⟩⟩
def Qc9 (Z : State) (a : Addr) (h0 : Heap) (n0 : Nat) (v : Option Value) (h : Heap) (L : List Loc) : Prop := v = none ∧ Fr n0 L ∧ Keep h0 h [a] ∧ (∃ x, Fld Z h a "java/util/AbstractList" "modCount" "I" x) ∧ (∃ x, Fld Z h a "java/util/ArrayList" "elementData" "[Ljava/lang/Object;" x)
set_option maxRecDepth 65536 in
set_option maxHeartbeats 40000000 in
theorem rm9 (l : Launch) (Z : State) (a0 : Array Value) (hw : ∀ d ∈ tables_1, d.before a0 Z = true) (ws : List Jvm.Cond) (a : Addr)  (da : Addr) (h0 : Heap) (n0 : Nat) (Z0 : n0 ≤ h0.size) (E : Exa Z h0 a "java/util/ArrayList") (ga : n0 ≤ a) (hF0 : ∃ x, Fld Z h0 a "java/util/AbstractList" "modCount" "I" x) (hF1 : ∃ x, Fld Z h0 a "java/util/ArrayList" "elementData" "[Ljava/lang/Object;" x) (hold : Old Z n0 h0) (hSd : Sta Z Z.heap "java/util/ArrayList" "DEFAULTCAPACITY_EMPTY_ELEMENTDATA" "[Ljava/lang/Object;" (.ref da)) :
    MetFree l (⟨"java/util/ArrayList", "<init>", "()V"⟩ : MethodName) (head1 (Jvm.Cond.code (⟨"java/util/ArrayList", "<init>", "()V"⟩ : MethodName) jdk_38_method_2_code 1 none :: ws) ({ frames := 3, cells := 0, slots := 0, locals := 36 } : Room)) (fun aa UU => aa = #[(.ref a)] ∧ Z.Warmed39 UU.vm ∧ UU.heap = h0) (fun _ _ _ _ _ => True) (fun _ UU oo U' => ∃ v L, oo = .returned v ∧ Qc9 Z a h0 n0 v U'.heap L ∧ FrameEnd UU oo U' L ({ frames := 3, cells := 0, slots := 0, locals := 36 } : Room).cells ({ frames := 3, cells := 0, slots := 0, locals := 36 } : Room).slots) := by
  refine MetFree.of_bodySF (plainFor_of_name pn_5) hisR ?_
  intro p e s m args below meth c s₁ Bd hml0 hP hK
  obtain ⟨rfl, hZ, hh⟩ := hP
  have hx := Bd.exec
  have hby := Bd.bytes
  have hml : c.maxLocals = 1 := hml0
  have hown : s.vm.findClass "java/util/ArrayList" = some m.cls := findClass_of_methodNamed Bd.named
  have hnm := (name_of_methodNamed Bd.named Bd.method).1
  have X0 : Stand p l e ({ frames := 3, cells := 0, slots := 0, locals := 36 } : Room) s m #[(.ref a)] below meth c s₁ [] 0 0 := Stand.of_body Bd
  have e0 : s₁.heap = h0 := by rw [← hh, Bd.state]; rfl
  have N0 := Fr.nil n0
  obtain ⟨A0, hA0⟩ : ∃ A, A = s₁.setTop (entryFrame m #[(.ref a)] 1) := ⟨_, rfl⟩
  have G0 : Go p e below A0 (s₁.setTop (mkF m 0 #[.val (.ref a)] [])) := fun tq kq => by rw [hA0]; exact castTop (ef_rm9 m a) kq
  obtain ⟨u0, F0⟩ := hF0
  obtain ⟨u1, F1⟩ := hF1
  have G23 : Go p e below A0 (s₁.setTop (mkF m 1 #[.val (.ref a)] [(.ref a)])) := fun tq kq => G0 tq (by
    refine XS.aloadN X0.here hx rfl (hb hby d9_0) rfl rfl ?_
    show Steps p.tables e below (s₁.setTop (mkF m 1 #[.val (.ref a)] [(.ref a)])) _
    exact kq)
  obtain ⟨_, _, ⟨T24, L24, k24, n24⟩, -, X24, ⟨Lc24, hQ24, l24, y24, z24⟩, st24⟩ := X0.specialBack hx (y := (⟨"java/util/AbstractList", "<init>", "()V"⟩ : MethodName)) rfl hown (mvT hZ (hw _ (List.mem_of_getElem? (i := 67) rfl))) (mvT hZ (hw _ (List.mem_of_getElem? (i := 68) rfl))) (mvT hZ (hw _ (List.mem_of_getElem? (i := 72) rfl))) (by decide) (backOf (W := 0) (rm10 l Z a0 hw [] a   h0 n0 Z0 E ga ⟨_, F0⟩ ⟨_, F1⟩ ) hZ (hw _ (List.mem_of_getElem? (i := 72) rfl)) (hw _ (List.mem_of_getElem? (i := 71) rfl)) (by decide) (by decide)) (g := (mkF m 1 #[.val (.ref a)] [(.ref a)])) rfl (by rw [hml]; rfl) (Steps.refl _) (a := a) (argsL := []) (rest := []) (lenOf pd_0 rfl) rfl (by show 2 * 0 + _ ≤ _; exact Nat.le_of_eq rfl) (hb hby d9_1) (fun _ _ => ⟨rfl, e0, (by decide : 0 + 0 ≤ _), (by decide : 0 + 0 ≤ _)⟩)
  dsimp only [Pt.U, Pt.locs, Pt.cells, Pt.slots] at X24 l24 y24 z24 st24 hQ24
  obtain rfl : k24 = 0 := y24
  obtain rfl : n24 = 0 := z24
  obtain ⟨rfl, N24q, K24, ⟨x24_0, F24_0⟩, ⟨x24_1, F24_1⟩⟩ := hQ24
  have N24 : Fr n0 L24 := by rw [l24]; exact Fr.app N0 N24q
  have G25 : Go p e below A0 (T24.setTop (mkF m 4 #[.val (.ref a)] [])) := fun tq kq => G23 tq (st24.trans kq)
  have G26 : Go p e below A0 (T24.setTop (mkF m 5 #[.val (.ref a)] [(.ref a)])) := fun tq kq => G25 tq (by
    refine XS.aloadN X24.here hx rfl (hb hby d9_4) rfl rfl ?_
    show Steps p.tables e below (T24.setTop (mkF m 5 #[.val (.ref a)] [(.ref a)])) _
    exact kq)
  obtain ⟨T27, X27, e27, st27⟩ := getS2 X24 hx hZ hown (host := "") (Or.inl (hw _ (List.mem_of_getElem? (i := 82) rfl))) Via.refl rfl (hSd.ext (hold.keep K24 (allS ga all0)).2) (g := (mkF m 5 #[.val (.ref a)] [(.ref a)])) rfl (hb hby d9_5)
  have G28 : Go p e below A0 (T27.setTop (mkF m 8 #[.val (.ref a)] [(.ref da), (.ref a)])) := fun tq kq => G26 tq (st27 _ kq)
  have f29 := (E.keep K24)
  obtain ⟨T30, h30, X30, e30, W30, st30⟩ := putF X27 hx hZ hown (host := "") (Or.inl (hw _ (List.mem_of_getElem? (i := 83) rfl))) Via.refl e27 F24_1 f29 (Or.inl (hw _ (List.mem_of_getElem? (i := 84) rfl))) (hw _ (List.mem_of_getElem? (i := 62) rfl)) (ty := (.array (.object "java/lang/Object"))) (by decide) rfl rfl (g := (mkF m 8 #[.val (.ref a)] [(.ref da), (.ref a)])) rfl rfl (hb hby d9_8)
  have N30 := Fr.snoc X30 N24 ga
  have fw30 := F24_1.same W30
  have G31 : Go p e below A0 (T30.setTop (mkF m 11 #[.val (.ref a)] [])) := fun tq kq => G28 tq (st30 _ kq)
  have f32 := (F24_0.other W30 (Or.inr (slot_ne (Or.inl (hw _ (List.mem_of_getElem? (i := 81) rfl))) (Or.inl (hw _ (List.mem_of_getElem? (i := 84) rfl))) (by decide) (t := .int) (t' := (.array (.object "java/lang/Object"))) (by decide) (by decide))))
  obtain ⟨fs, hr, hrun, hended, hW, hsame⟩ := X30.leave (v := none) (fun _ => rfl)
  refine ⟨_, _, (by rw [← hA0]; exact G31 _ (X30.returnOut hx Bd.returns (hb hby d9_11) hr)), hrun, hended, _, _, rfl, ?_, ⟨_, rfl⟩, hW, hsame.mono (by decide) (by decide)⟩
  show Qc9 Z a h0 n0 _ T30.heap _
  rw [e30]
  exact ⟨rfl, N30, (((Keep.refl h0 [a]).trans K24 (allS (P := fun x => x ∈ [a] ∨ h0.size ≤ x) (Or.inl (List.mem_of_getElem? (i := 0) rfl)) all0)).wr W30 (Or.inl (List.mem_of_getElem? (i := 0) rfl))), ⟨_, f32⟩, ⟨_, fw30⟩⟩
set_option maxRecDepth 65536 in
set_option maxHeartbeats 40000000 in
theorem rm17 (l : Launch) (Z : State) (a0 : Array Value) (hw : ∀ d ∈ tables_1, d.before a0 Z = true) (ws : List Jvm.Cond)  (h0 : Heap) (n0 : Nat) (Z0 : n0 ≤ h0.size) :
    MetFree l (⟨"java/lang/Float", "isNaN", "(F)Z"⟩ : MethodName) (head1 (Jvm.Cond.code (⟨"java/lang/Float", "isNaN", "(F)Z"⟩ : MethodName) jdk_118_method_6_code 1 (some .boolean) :: ws) ({ frames := 0, cells := 0, slots := 0, locals := 0 } : Room)) (fun aa UU => aa = #[(.float (1061158912 : UInt32))] ∧ Z.Warmed39 UU.vm ∧ UU.heap = h0) (fun _ _ _ _ _ => True) (fun _ UU oo U' => ∃ v L, oo = .returned v ∧ Qr (.int (0 : Int32)) h0 n0 v U'.heap L ∧ FrameEnd UU oo U' L ({ frames := 0, cells := 0, slots := 0, locals := 0 } : Room).cells ({ frames := 0, cells := 0, slots := 0, locals := 0 } : Room).slots) := by
  refine MetFree.of_bodySF pf_rm17 hisR ?_
  intro p e s m args below meth c s₁ Bd hml0 hP hK
  obtain ⟨rfl, hZ, hh⟩ := hP
  have hx := Bd.exec
  have hby := Bd.bytes
  have hml : c.maxLocals = 1 := hml0
  have hown : s.vm.findClass "java/lang/Float" = some m.cls := findClass_of_methodNamed Bd.named
  have hnm := (name_of_methodNamed Bd.named Bd.method).1
  have X0 : Stand p l e ({ frames := 0, cells := 0, slots := 0, locals := 0 } : Room) s m #[(.float (1061158912 : UInt32))] below meth c s₁ [] 0 0 := Stand.of_body Bd
  have e0 : s₁.heap = h0 := by rw [← hh, Bd.state]; rfl
  have N0 := Fr.nil n0
  obtain ⟨A0, hA0⟩ : ∃ A, A = s₁.setTop (entryFrame m #[(.float (1061158912 : UInt32))] 1) := ⟨_, rfl⟩
  have G0 : Go p e below A0 (s₁.setTop (mkF m 0 #[.val (.float (1061158912 : UInt32))] [])) := fun tq kq => by rw [hA0]; exact castTop (ef_rm17 m (1061158912 : UInt32)) kq
  have G33 : Go p e below A0 (s₁.setTop (mkF m 11 #[.val (.float (1061158912 : UInt32))] [(.int (0 : Int32))])) := fun tq kq => G0 tq (by
    refine XS.floadN X0.here hx rfl (hb hby d17_0) rfl ?_
    show Steps p.tables e below (s₁.setTop (mkF m 1 #[.val (.float (1061158912 : UInt32))] [(.float (1061158912 : UInt32))])) _
    refine XS.floadN X0.here hx rfl (hb hby d17_1) rfl ?_
    show Steps p.tables e below (s₁.setTop (mkF m 2 #[.val (.float (1061158912 : UInt32))] [(.float (1061158912 : UInt32)), (.float (1061158912 : UInt32))])) _
    refine own_fcmp X0 hx rfl (hb hby d17_2) rfl (z := (0 : Int32)) (by decide +kernel) ?_
    show Steps p.tables e below (s₁.setTop (mkF m 3 #[.val (.float (1061158912 : UInt32))] [(.int (0 : Int32))])) _
    refine XS.ifYes X0.here hx rfl (pc0 := 3) (pc' := 10) rfl (hb hby d17_3) rfl (by decide) (by decide) (by decide) ?_
    show Steps p.tables e below (s₁.setTop (mkF m 10 #[.val (.float (1061158912 : UInt32))] [])) _
    refine XS.iconst X0.here hx rfl (hb hby d17_10) ?_
    show Steps p.tables e below (s₁.setTop (mkF m 11 #[.val (.float (1061158912 : UInt32))] [(.int (0 : Int32))])) _
    exact kq)
  obtain ⟨fs, hr, hrun, hended, hW, hsame⟩ := X0.leave (v := some (.int (nar .boolean (0 : Int32)))) (fun h => by rw [Bd.returns] at h; cases h)
  refine ⟨_, _, (by rw [← hA0]; exact G33 _ (retN X0 hx (t := .boolean) Bd.returns (by simp) (hb hby d17_11) hr)), hrun, hended, _, _, rfl, ?_, ⟨_, rfl⟩, hW, hsame.mono (by decide) (by decide)⟩
  exact ⟨rfl, N0, e0⟩
set_option maxRecDepth 65536 in
set_option maxHeartbeats 40000000 in
theorem rm19 (l : Launch) (Z : State) (a0 : Array Value) (hw : ∀ d ∈ tables_1, d.before a0 Z = true) (ws : List Jvm.Cond)  (h0 : Heap) (n0 : Nat) (Z0 : n0 ≤ h0.size) :
    MetFree l (⟨"java/lang/Integer", "numberOfLeadingZeros", "(I)I"⟩ : MethodName) (head1 (Jvm.Cond.code (⟨"java/lang/Integer", "numberOfLeadingZeros", "(I)I"⟩ : MethodName) jdk_33_method_47_code 2 (some .int) :: ws) ({ frames := 0, cells := 0, slots := 0, locals := 0 } : Room)) (fun aa UU => aa = #[(.int (15 : Int32))] ∧ Z.Warmed39 UU.vm ∧ UU.heap = h0) (fun _ _ _ _ _ => True) (fun _ UU oo U' => ∃ v L, oo = .returned v ∧ Qr (.int (28 : Int32)) h0 n0 v U'.heap L ∧ FrameEnd UU oo U' L ({ frames := 0, cells := 0, slots := 0, locals := 0 } : Room).cells ({ frames := 0, cells := 0, slots := 0, locals := 0 } : Room).slots) := by
  refine MetFree.of_bodySF (plainFor_of_name pn_6) hisR ?_
  intro p e s m args below meth c s₁ Bd hml0 hP hK
  obtain ⟨rfl, hZ, hh⟩ := hP
  have hx := Bd.exec
  have hby := Bd.bytes
  have hml : c.maxLocals = 2 := hml0
  have hown : s.vm.findClass "java/lang/Integer" = some m.cls := findClass_of_methodNamed Bd.named
  have hnm := (name_of_methodNamed Bd.named Bd.method).1
  have X0 : Stand p l e ({ frames := 0, cells := 0, slots := 0, locals := 0 } : Room) s m #[(.int (15 : Int32))] below meth c s₁ [] 0 0 := Stand.of_body Bd
  have e0 : s₁.heap = h0 := by rw [← hh, Bd.state]; rfl
  have N0 := Fr.nil n0
  obtain ⟨A0, hA0⟩ : ∃ A, A = s₁.setTop (entryFrame m #[(.int (15 : Int32))] 2) := ⟨_, rfl⟩
  have G0 : Go p e below A0 (s₁.setTop (mkF m 0 #[.val (.int (15 : Int32)), .unset] [])) := fun tq kq => by rw [hA0]; exact castTop (ef_rm19 m (15 : Int32)) kq
  have G34 : Go p e below A0 (s₁.setTop (mkF m 78 #[.val (.int (3 : Int32)), .val (.int (29 : Int32))] [(.int (28 : Int32))])) := fun tq kq => G0 tq (by
    refine XS.iloadN X0.here hx rfl (hb hby d19_0) rfl ?_
    show Steps p.tables e below (s₁.setTop (mkF m 1 #[.val (.int (15 : Int32)), .unset] [(.int (15 : Int32))])) _
    refine XS.ifYes X0.here hx rfl (pc0 := 1) (pc' := 15) rfl (hb hby d19_1) rfl (by decide) (by decide) (by decide) ?_
    show Steps p.tables e below (s₁.setTop (mkF m 15 #[.val (.int (15 : Int32)), .unset] [])) _
    refine XS.bipush X0.here hx rfl (hb hby d19_15) ?_
    show Steps p.tables e below (s₁.setTop (mkF m 17 #[.val (.int (15 : Int32)), .unset] [(.int (31 : Int32))])) _
    refine XS.istoreN X0.here hx rfl (hb hby d19_17) rfl (l' := #[.val (.int (15 : Int32)), .val (.int (31 : Int32))]) rfl ?_
    show Steps p.tables e below (s₁.setTop (mkF m 18 #[.val (.int (15 : Int32)), .val (.int (31 : Int32))] [])) _
    refine XS.iloadN X0.here hx rfl (hb hby d19_18) rfl ?_
    show Steps p.tables e below (s₁.setTop (mkF m 19 #[.val (.int (15 : Int32)), .val (.int (31 : Int32))] [(.int (15 : Int32))])) _
    refine X0.ldcwInt hx hown (mvT hZ (hw _ (List.mem_of_getElem? (i := 134) rfl))) (g := (mkF m 19 #[.val (.int (15 : Int32)), .val (.int (31 : Int32))] [(.int (15 : Int32))])) rfl (hb hby d19_19) _ ?_
    show Steps p.tables e below (s₁.setTop (mkF m 22 #[.val (.int (15 : Int32)), .val (.int (31 : Int32))] [(.int (65536 : Int32)), (.int (15 : Int32))])) _
    refine XS.icmpYes X0.here hx rfl (pc0 := 22) (pc' := 33) rfl (hb hby d19_22) rfl (by decide) (by decide) (by decide) ?_
    show Steps p.tables e below (s₁.setTop (mkF m 33 #[.val (.int (15 : Int32)), .val (.int (31 : Int32))] [])) _
    refine XS.iloadN X0.here hx rfl (hb hby d19_33) rfl ?_
    show Steps p.tables e below (s₁.setTop (mkF m 34 #[.val (.int (15 : Int32)), .val (.int (31 : Int32))] [(.int (15 : Int32))])) _
    refine XS.sipush X0.here hx rfl (hb hby d19_34) ?_
    show Steps p.tables e below (s₁.setTop (mkF m 37 #[.val (.int (15 : Int32)), .val (.int (31 : Int32))] [(.int (256 : Int32)), (.int (15 : Int32))])) _
    refine XS.icmpYes X0.here hx rfl (pc0 := 37) (pc' := 48) rfl (hb hby d19_37) rfl (by decide) (by decide) (by decide) ?_
    show Steps p.tables e below (s₁.setTop (mkF m 48 #[.val (.int (15 : Int32)), .val (.int (31 : Int32))] [])) _
    refine XS.iloadN X0.here hx rfl (hb hby d19_48) rfl ?_
    show Steps p.tables e below (s₁.setTop (mkF m 49 #[.val (.int (15 : Int32)), .val (.int (31 : Int32))] [(.int (15 : Int32))])) _
    refine XS.bipush X0.here hx rfl (hb hby d19_49) ?_
    show Steps p.tables e below (s₁.setTop (mkF m 51 #[.val (.int (15 : Int32)), .val (.int (31 : Int32))] [(.int (16 : Int32)), (.int (15 : Int32))])) _
    refine XS.icmpYes X0.here hx rfl (pc0 := 51) (pc' := 61) rfl (hb hby d19_51) rfl (by decide) (by decide) (by decide) ?_
    show Steps p.tables e below (s₁.setTop (mkF m 61 #[.val (.int (15 : Int32)), .val (.int (31 : Int32))] [])) _
    refine XS.iloadN X0.here hx rfl (hb hby d19_61) rfl ?_
    show Steps p.tables e below (s₁.setTop (mkF m 62 #[.val (.int (15 : Int32)), .val (.int (31 : Int32))] [(.int (15 : Int32))])) _
    refine XS.iconst X0.here hx rfl (hb hby d19_62) ?_
    show Steps p.tables e below (s₁.setTop (mkF m 63 #[.val (.int (15 : Int32)), .val (.int (31 : Int32))] [(.int (4 : Int32)), (.int (15 : Int32))])) _
    refine XS.icmpNo X0.here hx rfl (hb hby d19_63) rfl (by decide) ?_
    show Steps p.tables e below (s₁.setTop (mkF m 66 #[.val (.int (15 : Int32)), .val (.int (31 : Int32))] [])) _
    refine XS.iinc X0.here hx rfl (hb hby d19_66) rfl (l' := #[.val (.int (15 : Int32)), .val (.int ((31 : Int32) + (-2 : Int32)))]) rfl ?_
    show Steps p.tables e below (s₁.setTop (mkF m 69 #[.val (.int (15 : Int32)), .val (.int ((31 : Int32) + (-2 : Int32)))] [])) _
    rw [show ((31 : Int32) + (-2 : Int32)) = (29 : Int32) from (by decide : ((31 : Int32) + (-2 : Int32)) = (29 : Int32))]
    show Steps p.tables e below (s₁.setTop (mkF m 69 #[.val (.int (15 : Int32)), .val (.int (29 : Int32))] [])) _
    refine XS.iloadN X0.here hx rfl (hb hby d19_69) rfl ?_
    show Steps p.tables e below (s₁.setTop (mkF m 70 #[.val (.int (15 : Int32)), .val (.int (29 : Int32))] [(.int (15 : Int32))])) _
    refine XS.iconst X0.here hx rfl (hb hby d19_70) ?_
    show Steps p.tables e below (s₁.setTop (mkF m 71 #[.val (.int (15 : Int32)), .val (.int (29 : Int32))] [(.int (2 : Int32)), (.int (15 : Int32))])) _
    refine XS.iushr X0.here hx rfl (hb hby d19_71) rfl ?_
    show Steps p.tables e below (s₁.setTop (mkF m 72 #[.val (.int (15 : Int32)), .val (.int (29 : Int32))] [(.int (((15 : Int32).toUInt32 >>> ((2 : Int32) &&& 31).toUInt32).toInt32))])) _
    rw [show (((15 : Int32).toUInt32 >>> ((2 : Int32) &&& 31).toUInt32).toInt32) = (3 : Int32) from (by decide : (((15 : Int32).toUInt32 >>> ((2 : Int32) &&& 31).toUInt32).toInt32) = (3 : Int32))]
    show Steps p.tables e below (s₁.setTop (mkF m 72 #[.val (.int (15 : Int32)), .val (.int (29 : Int32))] [(.int (3 : Int32))])) _
    refine XS.istoreN X0.here hx rfl (hb hby d19_72) rfl (l' := #[.val (.int (3 : Int32)), .val (.int (29 : Int32))]) rfl ?_
    show Steps p.tables e below (s₁.setTop (mkF m 73 #[.val (.int (3 : Int32)), .val (.int (29 : Int32))] [])) _
    refine XS.iloadN X0.here hx rfl (hb hby d19_73) rfl ?_
    show Steps p.tables e below (s₁.setTop (mkF m 74 #[.val (.int (3 : Int32)), .val (.int (29 : Int32))] [(.int (29 : Int32))])) _
    refine XS.iloadN X0.here hx rfl (hb hby d19_74) rfl ?_
    show Steps p.tables e below (s₁.setTop (mkF m 75 #[.val (.int (3 : Int32)), .val (.int (29 : Int32))] [(.int (3 : Int32)), (.int (29 : Int32))])) _
    refine XS.iconst X0.here hx rfl (hb hby d19_75) ?_
    show Steps p.tables e below (s₁.setTop (mkF m 76 #[.val (.int (3 : Int32)), .val (.int (29 : Int32))] [(.int (1 : Int32)), (.int (3 : Int32)), (.int (29 : Int32))])) _
    refine XS.iushr X0.here hx rfl (hb hby d19_76) rfl ?_
    show Steps p.tables e below (s₁.setTop (mkF m 77 #[.val (.int (3 : Int32)), .val (.int (29 : Int32))] [(.int (((3 : Int32).toUInt32 >>> ((1 : Int32) &&& 31).toUInt32).toInt32)), (.int (29 : Int32))])) _
    rw [show (((3 : Int32).toUInt32 >>> ((1 : Int32) &&& 31).toUInt32).toInt32) = (1 : Int32) from (by decide : (((3 : Int32).toUInt32 >>> ((1 : Int32) &&& 31).toUInt32).toInt32) = (1 : Int32))]
    show Steps p.tables e below (s₁.setTop (mkF m 77 #[.val (.int (3 : Int32)), .val (.int (29 : Int32))] [(.int (1 : Int32)), (.int (29 : Int32))])) _
    refine XS.isub X0.here hx rfl (hb hby d19_77) rfl ?_
    show Steps p.tables e below (s₁.setTop (mkF m 78 #[.val (.int (3 : Int32)), .val (.int (29 : Int32))] [(.int ((29 : Int32) - (1 : Int32)))])) _
    rw [show ((29 : Int32) - (1 : Int32)) = (28 : Int32) from (by decide : ((29 : Int32) - (1 : Int32)) = (28 : Int32))]
    show Steps p.tables e below (s₁.setTop (mkF m 78 #[.val (.int (3 : Int32)), .val (.int (29 : Int32))] [(.int (28 : Int32))])) _
    exact kq)
  obtain ⟨fs, hr, hrun, hended, hW, hsame⟩ := X0.leave (v := some (.int (28 : Int32))) (fun h => by rw [Bd.returns] at h; cases h)
  refine ⟨_, _, (by rw [← hA0]; exact G34 _ (retOut X0 hx (t := .int) Bd.returns rfl (Or.inl ⟨rfl, Or.inl rfl, _, rfl⟩) (hb hby d19_78) hr)), hrun, hended, _, _, rfl, ?_, ⟨_, rfl⟩, hW, hsame.mono (by decide) (by decide)⟩
  exact ⟨rfl, N0, e0⟩
set_option maxRecDepth 65536 in
set_option maxHeartbeats 40000000 in
theorem rm18 (l : Launch) (Z : State) (a0 : Array Value) (hw : ∀ d ∈ tables_1, d.before a0 Z = true) (ws : List Jvm.Cond)  (h0 : Heap) (n0 : Nat) (Z0 : n0 ≤ h0.size) :
    MetFree l (⟨"java/util/HashMap", "tableSizeFor", "(I)I"⟩ : MethodName) (head1 (Jvm.Cond.code (⟨"java/util/HashMap", "tableSizeFor", "(I)I"⟩ : MethodName) jdk_69_method_4_code 2 (some .int) :: ws) ({ frames := 1, cells := 0, slots := 0, locals := 14 } : Room)) (fun aa UU => aa = #[(.int (16 : Int32))] ∧ Z.Warmed39 UU.vm ∧ UU.heap = h0) (fun _ _ _ _ _ => True) (fun _ UU oo U' => ∃ v L, oo = .returned v ∧ Qr (.int (16 : Int32)) h0 n0 v U'.heap L ∧ FrameEnd UU oo U' L ({ frames := 1, cells := 0, slots := 0, locals := 14 } : Room).cells ({ frames := 1, cells := 0, slots := 0, locals := 14 } : Room).slots) := by
  refine MetFree.of_bodySF (plainFor_of_name pn_3) hisR ?_
  intro p e s m args below meth c s₁ Bd hml0 hP hK
  obtain ⟨rfl, hZ, hh⟩ := hP
  have hx := Bd.exec
  have hby := Bd.bytes
  have hml : c.maxLocals = 2 := hml0
  have hown : s.vm.findClass "java/util/HashMap" = some m.cls := findClass_of_methodNamed Bd.named
  have hnm := (name_of_methodNamed Bd.named Bd.method).1
  have X0 : Stand p l e ({ frames := 1, cells := 0, slots := 0, locals := 14 } : Room) s m #[(.int (16 : Int32))] below meth c s₁ [] 0 0 := Stand.of_body Bd
  have e0 : s₁.heap = h0 := by rw [← hh, Bd.state]; rfl
  have N0 := Fr.nil n0
  obtain ⟨A0, hA0⟩ : ∃ A, A = s₁.setTop (entryFrame m #[(.int (16 : Int32))] 2) := ⟨_, rfl⟩
  have G0 : Go p e below A0 (s₁.setTop (mkF m 0 #[.val (.int (16 : Int32)), .unset] [])) := fun tq kq => by rw [hA0]; exact castTop (ef_rm18 m (16 : Int32)) kq
  have G35 : Go p e below A0 (s₁.setTop (mkF m 4 #[.val (.int (16 : Int32)), .unset] [(.int (15 : Int32)), (.int (-1 : Int32))])) := fun tq kq => G0 tq (by
    refine XS.iconst X0.here hx rfl (hb hby d18_0) ?_
    show Steps p.tables e below (s₁.setTop (mkF m 1 #[.val (.int (16 : Int32)), .unset] [(.int (-1 : Int32))])) _
    refine XS.iloadN X0.here hx rfl (hb hby d18_1) rfl ?_
    show Steps p.tables e below (s₁.setTop (mkF m 2 #[.val (.int (16 : Int32)), .unset] [(.int (16 : Int32)), (.int (-1 : Int32))])) _
    refine XS.iconst X0.here hx rfl (hb hby d18_2) ?_
    show Steps p.tables e below (s₁.setTop (mkF m 3 #[.val (.int (16 : Int32)), .unset] [(.int (1 : Int32)), (.int (16 : Int32)), (.int (-1 : Int32))])) _
    refine XS.isub X0.here hx rfl (hb hby d18_3) rfl ?_
    show Steps p.tables e below (s₁.setTop (mkF m 4 #[.val (.int (16 : Int32)), .unset] [(.int ((16 : Int32) - (1 : Int32))), (.int (-1 : Int32))])) _
    rw [show ((16 : Int32) - (1 : Int32)) = (15 : Int32) from (by decide : ((16 : Int32) - (1 : Int32)) = (15 : Int32))]
    show Steps p.tables e below (s₁.setTop (mkF m 4 #[.val (.int (16 : Int32)), .unset] [(.int (15 : Int32)), (.int (-1 : Int32))])) _
    exact kq)
  obtain ⟨_, _, ⟨T36, L36, k36, n36⟩, -, X36, ⟨Lc36, hQ36, l36, y36, z36⟩, st36⟩ := Jvm.LawKit.callS X0 hx (y := (⟨"java/lang/Integer", "numberOfLeadingZeros", "(I)I"⟩ : MethodName)) hown (mvT hZ (hw _ (List.mem_of_getElem? (i := 130) rfl))) (mvT hZ (hw _ (List.mem_of_getElem? (i := 131) rfl))) (mvT hZ (hw _ (List.mem_of_getElem? (i := 132) rfl))) (mvT hZ (hw _ (List.mem_of_getElem? (i := 133) rfl))) (by decide) (backOf (W := 1) (rm19 l Z a0 hw [] h0 n0 Z0) hZ (hw _ (List.mem_of_getElem? (i := 133) rfl)) (hw _ (List.mem_of_getElem? (i := 132) rfl)) (by decide) (by decide)) (g := (mkF m 4 #[.val (.int (16 : Int32)), .unset] [(.int (15 : Int32)), (.int (-1 : Int32))])) rfl (by rw [hml]; rfl) (argsL := [(.int (15 : Int32))]) (rest := [(.int (-1 : Int32))]) (lenOf pd_1 rfl) rfl (by show 2 * 0 + _ ≤ _; exact Nat.le_of_eq rfl) (hb hby d18_4) (fun _ _ => ⟨rfl, e0, (by decide : 0 + 0 ≤ _), (by decide : 0 + 0 ≤ _)⟩)
  dsimp only [Pt.U, Pt.locs, Pt.cells, Pt.slots] at X36 l36 y36 z36 st36 hQ36
  obtain rfl : k36 = 0 := y36
  obtain rfl : n36 = 0 := z36
  obtain ⟨rfl, N36q, e36⟩ := hQ36
  have N36 : Fr n0 L36 := by rw [l36]; exact Fr.app N0 N36q
  have G37 : Go p e below A0 (T36.setTop (mkF m 7 #[.val (.int (16 : Int32)), .unset] [(.int (28 : Int32)), (.int (-1 : Int32))])) := fun tq kq => G35 tq (st36 _ kq)
  have G38 : Go p e below A0 (T36.setTop (mkF m 31 #[.val (.int (16 : Int32)), .val (.int (15 : Int32))] [(.int (16 : Int32))])) := fun tq kq => G37 tq (by
    refine XS.iushr X36.here hx rfl (hb hby d18_7) rfl ?_
    show Steps p.tables e below (T36.setTop (mkF m 8 #[.val (.int (16 : Int32)), .unset] [(.int (((-1 : Int32).toUInt32 >>> ((28 : Int32) &&& 31).toUInt32).toInt32))])) _
    rw [show (((-1 : Int32).toUInt32 >>> ((28 : Int32) &&& 31).toUInt32).toInt32) = (15 : Int32) from (by decide : (((-1 : Int32).toUInt32 >>> ((28 : Int32) &&& 31).toUInt32).toInt32) = (15 : Int32))]
    show Steps p.tables e below (T36.setTop (mkF m 8 #[.val (.int (16 : Int32)), .unset] [(.int (15 : Int32))])) _
    refine XS.istoreN X36.here hx rfl (hb hby d18_8) rfl (l' := #[.val (.int (16 : Int32)), .val (.int (15 : Int32))]) rfl ?_
    show Steps p.tables e below (T36.setTop (mkF m 9 #[.val (.int (16 : Int32)), .val (.int (15 : Int32))] [])) _
    refine XS.iloadN X36.here hx rfl (hb hby d18_9) rfl ?_
    show Steps p.tables e below (T36.setTop (mkF m 10 #[.val (.int (16 : Int32)), .val (.int (15 : Int32))] [(.int (15 : Int32))])) _
    refine XS.ifYes X36.here hx rfl (pc0 := 10) (pc' := 17) rfl (hb hby d18_10) rfl (by decide) (by decide) (by decide) ?_
    show Steps p.tables e below (T36.setTop (mkF m 17 #[.val (.int (16 : Int32)), .val (.int (15 : Int32))] [])) _
    refine XS.iloadN X36.here hx rfl (hb hby d18_17) rfl ?_
    show Steps p.tables e below (T36.setTop (mkF m 18 #[.val (.int (16 : Int32)), .val (.int (15 : Int32))] [(.int (15 : Int32))])) _
    refine X36.ldcInt hx hown (mvT hZ (hw _ (List.mem_of_getElem? (i := 121) rfl))) (g := (mkF m 18 #[.val (.int (16 : Int32)), .val (.int (15 : Int32))] [(.int (15 : Int32))])) rfl (hb hby d18_18) _ ?_
    show Steps p.tables e below (T36.setTop (mkF m 20 #[.val (.int (16 : Int32)), .val (.int (15 : Int32))] [(.int (1073741824 : Int32)), (.int (15 : Int32))])) _
    refine XS.icmpYes X36.here hx rfl (pc0 := 20) (pc' := 28) rfl (hb hby d18_20) rfl (by decide) (by decide) (by decide) ?_
    show Steps p.tables e below (T36.setTop (mkF m 28 #[.val (.int (16 : Int32)), .val (.int (15 : Int32))] [])) _
    refine XS.iloadN X36.here hx rfl (hb hby d18_28) rfl ?_
    show Steps p.tables e below (T36.setTop (mkF m 29 #[.val (.int (16 : Int32)), .val (.int (15 : Int32))] [(.int (15 : Int32))])) _
    refine XS.iconst X36.here hx rfl (hb hby d18_29) ?_
    show Steps p.tables e below (T36.setTop (mkF m 30 #[.val (.int (16 : Int32)), .val (.int (15 : Int32))] [(.int (1 : Int32)), (.int (15 : Int32))])) _
    refine XS.iadd X36.here hx rfl (hb hby d18_30) rfl ?_
    show Steps p.tables e below (T36.setTop (mkF m 31 #[.val (.int (16 : Int32)), .val (.int (15 : Int32))] [(.int ((15 : Int32) + (1 : Int32)))])) _
    rw [show ((15 : Int32) + (1 : Int32)) = (16 : Int32) from (by decide : ((15 : Int32) + (1 : Int32)) = (16 : Int32))]
    show Steps p.tables e below (T36.setTop (mkF m 31 #[.val (.int (16 : Int32)), .val (.int (15 : Int32))] [(.int (16 : Int32))])) _
    exact kq)
  obtain ⟨fs, hr, hrun, hended, hW, hsame⟩ := X36.leave (v := some (.int (16 : Int32))) (fun h => by rw [Bd.returns] at h; cases h)
  refine ⟨_, _, (by rw [← hA0]; exact G38 _ (retOut X36 hx (t := .int) Bd.returns rfl (Or.inl ⟨rfl, Or.inl rfl, _, rfl⟩) (hb hby d18_31) hr)), hrun, hended, _, _, rfl, ?_, ⟨_, rfl⟩, hW, hsame.mono (by decide) (by decide)⟩
  exact ⟨rfl, N36, e36⟩
def Qc16 (Z : State) (a : Addr) (h0 : Heap) (n0 : Nat) (v : Option Value) (h : Heap) (L : List Loc) : Prop := v = none ∧ Fr n0 L ∧ Keep h0 h [a] ∧ (∃ x, Fld Z h a "java/util/HashMap" "loadFactor" "F" x) ∧ (∃ x, Fld Z h a "java/util/HashMap" "threshold" "I" x) ∧ (∃ x, Fld Z h a "java/util/LinkedHashMap" "putMode" "I" x) ∧ (∃ x, Fld Z h a "java/util/LinkedHashMap" "accessOrder" "Z" x)
set_option maxRecDepth 65536 in
set_option maxHeartbeats 40000000 in
theorem rm16 (l : Launch) (Z : State) (a0 : Array Value) (hw : ∀ d ∈ tables_1, d.before a0 Z = true) (ws : List Jvm.Cond) (a : Addr)   (h0 : Heap) (n0 : Nat) (Z0 : n0 ≤ h0.size) (E : Exa Z h0 a "java/util/LinkedHashMap") (ga : n0 ≤ a) (hF0 : ∃ x, Fld Z h0 a "java/util/HashMap" "loadFactor" "F" x) (hF1 : ∃ x, Fld Z h0 a "java/util/HashMap" "threshold" "I" x) (hF2 : ∃ x, Fld Z h0 a "java/util/LinkedHashMap" "putMode" "I" x) (hF3 : ∃ x, Fld Z h0 a "java/util/LinkedHashMap" "accessOrder" "Z" x) :
    MetFree l (⟨"java/util/HashMap", "<init>", "(IF)V"⟩ : MethodName) (head1 (Jvm.Cond.code (⟨"java/util/HashMap", "<init>", "(IF)V"⟩ : MethodName) jdk_69_method_5_code 3 none :: ws) ({ frames := 2, cells := 0, slots := 0, locals := 28 } : Room)) (fun aa UU => aa = #[(.ref a), (.int (16 : Int32)), (.float (1061158912 : UInt32))] ∧ Z.Warmed39 UU.vm ∧ UU.heap = h0) (fun _ _ _ _ _ => True) (fun _ UU oo U' => ∃ v L, oo = .returned v ∧ Qc16 Z a h0 n0 v U'.heap L ∧ FrameEnd UU oo U' L ({ frames := 2, cells := 0, slots := 0, locals := 28 } : Room).cells ({ frames := 2, cells := 0, slots := 0, locals := 28 } : Room).slots) := by
  refine MetFree.of_bodySF (plainFor_of_name pn_3) hisR ?_
  intro p e s m args below meth c s₁ Bd hml0 hP hK
  obtain ⟨rfl, hZ, hh⟩ := hP
  have hx := Bd.exec
  have hby := Bd.bytes
  have hml : c.maxLocals = 3 := hml0
  have hown : s.vm.findClass "java/util/HashMap" = some m.cls := findClass_of_methodNamed Bd.named
  have hnm := (name_of_methodNamed Bd.named Bd.method).1
  have X0 : Stand p l e ({ frames := 2, cells := 0, slots := 0, locals := 28 } : Room) s m #[(.ref a), (.int (16 : Int32)), (.float (1061158912 : UInt32))] below meth c s₁ [] 0 0 := Stand.of_body Bd
  have e0 : s₁.heap = h0 := by rw [← hh, Bd.state]; rfl
  have N0 := Fr.nil n0
  obtain ⟨A0, hA0⟩ : ∃ A, A = s₁.setTop (entryFrame m #[(.ref a), (.int (16 : Int32)), (.float (1061158912 : UInt32))] 3) := ⟨_, rfl⟩
  have G0 : Go p e below A0 (s₁.setTop (mkF m 0 #[.val (.ref a), .val (.int (16 : Int32)), .val (.float (1061158912 : UInt32))] [])) := fun tq kq => by rw [hA0]; exact castTop (ef_rm16 m a (16 : Int32) (1061158912 : UInt32)) kq
  obtain ⟨u0, F0⟩ := hF0
  obtain ⟨u1, F1⟩ := hF1
  obtain ⟨u2, F2⟩ := hF2
  obtain ⟨u3, F3⟩ := hF3
  have G39 : Go p e below A0 (s₁.setTop (mkF m 1 #[.val (.ref a), .val (.int (16 : Int32)), .val (.float (1061158912 : UInt32))] [(.ref a)])) := fun tq kq => G0 tq (by
    refine XS.aloadN X0.here hx rfl (hb hby d16_0) rfl rfl ?_
    show Steps p.tables e below (s₁.setTop (mkF m 1 #[.val (.ref a), .val (.int (16 : Int32)), .val (.float (1061158912 : UInt32))] [(.ref a)])) _
    exact kq)
  obtain ⟨_, _, ⟨T40, L40, k40, n40⟩, -, X40, ⟨Lc40, hQ40, l40, y40, z40⟩, st40⟩ := X0.specialBack hx (y := (⟨"java/util/AbstractMap", "<init>", "()V"⟩ : MethodName)) rfl hown (mvT hZ (hw _ (List.mem_of_getElem? (i := 15) rfl))) (mvT hZ (hw _ (List.mem_of_getElem? (i := 16) rfl))) (mvT hZ (hw _ (List.mem_of_getElem? (i := 20) rfl))) (by decide) (backOf (W := 0) (rm4 l Z a0 hw [] a h0 n0 Z0) hZ (hw _ (List.mem_of_getElem? (i := 20) rfl)) (hw _ (List.mem_of_getElem? (i := 19) rfl)) (by decide) (by decide)) (g := (mkF m 1 #[.val (.ref a), .val (.int (16 : Int32)), .val (.float (1061158912 : UInt32))] [(.ref a)])) rfl (by rw [hml]; rfl) (Steps.refl _) (a := a) (argsL := []) (rest := []) (lenOf pd_0 rfl) rfl (by show 2 * 0 + _ ≤ _; exact Nat.le_of_eq rfl) (hb hby d16_1) (fun _ _ => ⟨rfl, e0, (by decide : 0 + 0 ≤ _), (by decide : 0 + 0 ≤ _)⟩)
  dsimp only [Pt.U, Pt.locs, Pt.cells, Pt.slots] at X40 l40 y40 z40 st40 hQ40
  obtain rfl : k40 = 0 := y40
  obtain rfl : n40 = 0 := z40
  obtain ⟨rfl, N40q, e40⟩ := hQ40
  have N40 : Fr n0 L40 := by rw [l40]; exact Fr.app N0 N40q
  have G41 : Go p e below A0 (T40.setTop (mkF m 4 #[.val (.ref a), .val (.int (16 : Int32)), .val (.float (1061158912 : UInt32))] [])) := fun tq kq => G39 tq (st40.trans kq)
  have G42 : Go p e below A0 (T40.setTop (mkF m 51 #[.val (.ref a), .val (.int (16 : Int32)), .val (.float (1061158912 : UInt32))] [(.float (1061158912 : UInt32))])) := fun tq kq => G41 tq (by
    refine XS.iloadN X40.here hx rfl (hb hby d16_4) rfl ?_
    show Steps p.tables e below (T40.setTop (mkF m 5 #[.val (.ref a), .val (.int (16 : Int32)), .val (.float (1061158912 : UInt32))] [(.int (16 : Int32))])) _
    refine XS.ifYes X40.here hx rfl (pc0 := 5) (pc' := 35) rfl (hb hby d16_5) rfl (by decide) (by decide) (by decide) ?_
    show Steps p.tables e below (T40.setTop (mkF m 35 #[.val (.ref a), .val (.int (16 : Int32)), .val (.float (1061158912 : UInt32))] [])) _
    refine XS.iloadN X40.here hx rfl (hb hby d16_35) rfl ?_
    show Steps p.tables e below (T40.setTop (mkF m 36 #[.val (.ref a), .val (.int (16 : Int32)), .val (.float (1061158912 : UInt32))] [(.int (16 : Int32))])) _
    refine X40.ldcInt hx hown (mvT hZ (hw _ (List.mem_of_getElem? (i := 121) rfl))) (g := (mkF m 36 #[.val (.ref a), .val (.int (16 : Int32)), .val (.float (1061158912 : UInt32))] [(.int (16 : Int32))])) rfl (hb hby d16_36) _ ?_
    show Steps p.tables e below (T40.setTop (mkF m 38 #[.val (.ref a), .val (.int (16 : Int32)), .val (.float (1061158912 : UInt32))] [(.int (1073741824 : Int32)), (.int (16 : Int32))])) _
    refine XS.icmpYes X40.here hx rfl (pc0 := 38) (pc' := 44) rfl (hb hby d16_38) rfl (by decide) (by decide) (by decide) ?_
    show Steps p.tables e below (T40.setTop (mkF m 44 #[.val (.ref a), .val (.int (16 : Int32)), .val (.float (1061158912 : UInt32))] [])) _
    refine XS.floadN X40.here hx rfl (hb hby d16_44) rfl ?_
    show Steps p.tables e below (T40.setTop (mkF m 45 #[.val (.ref a), .val (.int (16 : Int32)), .val (.float (1061158912 : UInt32))] [(.float (1061158912 : UInt32))])) _
    jvm_step X40.here [X40.here.top, hx, (hb hby d16_45)]
    show Steps p.tables e below (T40.setTop (mkF m 46 #[.val (.ref a), .val (.int (16 : Int32)), .val (.float (1061158912 : UInt32))] [(.float (0 : UInt32)), (.float (1061158912 : UInt32))])) _
    refine own_fcmp X40 hx rfl (hb hby d16_46) rfl (z := (1 : Int32)) (by decide +kernel) ?_
    show Steps p.tables e below (T40.setTop (mkF m 47 #[.val (.ref a), .val (.int (16 : Int32)), .val (.float (1061158912 : UInt32))] [(.int (1 : Int32))])) _
    refine XS.ifNo X40.here hx rfl (hb hby d16_47) rfl (by decide) ?_
    show Steps p.tables e below (T40.setTop (mkF m 50 #[.val (.ref a), .val (.int (16 : Int32)), .val (.float (1061158912 : UInt32))] [])) _
    refine XS.floadN X40.here hx rfl (hb hby d16_50) rfl ?_
    show Steps p.tables e below (T40.setTop (mkF m 51 #[.val (.ref a), .val (.int (16 : Int32)), .val (.float (1061158912 : UInt32))] [(.float (1061158912 : UInt32))])) _
    exact kq)
  obtain ⟨_, _, ⟨T43, L43, k43, n43⟩, -, X43, ⟨Lc43, hQ43, l43, y43, z43⟩, st43⟩ := Jvm.LawKit.callS X40 hx (y := (⟨"java/lang/Float", "isNaN", "(F)Z"⟩ : MethodName)) hown (mvT hZ (hw _ (List.mem_of_getElem? (i := 122) rfl))) (mvT hZ (hw _ (List.mem_of_getElem? (i := 123) rfl))) (mvT hZ (hw _ (List.mem_of_getElem? (i := 124) rfl))) (mvT hZ (hw _ (List.mem_of_getElem? (i := 125) rfl))) (by decide) (backOf (W := 0) (rm17 l Z a0 hw [] h0 n0 Z0) hZ (hw _ (List.mem_of_getElem? (i := 125) rfl)) (hw _ (List.mem_of_getElem? (i := 124) rfl)) (by decide) (by decide)) (g := (mkF m 51 #[.val (.ref a), .val (.int (16 : Int32)), .val (.float (1061158912 : UInt32))] [(.float (1061158912 : UInt32))])) rfl (by rw [hml]; rfl) (argsL := [(.float (1061158912 : UInt32))]) (rest := []) (lenOf pd_2 rfl) rfl (by show 2 * 0 + _ ≤ _; exact Nat.le_of_eq rfl) (hb hby d16_51) (fun _ _ => ⟨rfl, e40, (by decide : 0 + 0 ≤ _), (by decide : 0 + 0 ≤ _)⟩)
  dsimp only [Pt.U, Pt.locs, Pt.cells, Pt.slots] at X43 l43 y43 z43 st43 hQ43
  obtain rfl : k43 = 0 := y43
  obtain rfl : n43 = 0 := z43
  obtain ⟨rfl, N43q, e43⟩ := hQ43
  have N43 : Fr n0 L43 := by rw [l43]; exact Fr.app N40 N43q
  have G44 : Go p e below A0 (T43.setTop (mkF m 54 #[.val (.ref a), .val (.int (16 : Int32)), .val (.float (1061158912 : UInt32))] [(.int (0 : Int32))])) := fun tq kq => G42 tq (st43 _ kq)
  have G45 : Go p e below A0 (T43.setTop (mkF m 86 #[.val (.ref a), .val (.int (16 : Int32)), .val (.float (1061158912 : UInt32))] [(.float (1061158912 : UInt32)), (.ref a)])) := fun tq kq => G44 tq (by
    refine XS.ifYes X43.here hx rfl (pc0 := 54) (pc' := 84) rfl (hb hby d16_54) rfl (by decide) (by decide) (by decide) ?_
    show Steps p.tables e below (T43.setTop (mkF m 84 #[.val (.ref a), .val (.int (16 : Int32)), .val (.float (1061158912 : UInt32))] [])) _
    refine XS.aloadN X43.here hx rfl (hb hby d16_84) rfl rfl ?_
    show Steps p.tables e below (T43.setTop (mkF m 85 #[.val (.ref a), .val (.int (16 : Int32)), .val (.float (1061158912 : UInt32))] [(.ref a)])) _
    refine XS.floadN X43.here hx rfl (hb hby d16_85) rfl ?_
    show Steps p.tables e below (T43.setTop (mkF m 86 #[.val (.ref a), .val (.int (16 : Int32)), .val (.float (1061158912 : UInt32))] [(.float (1061158912 : UInt32)), (.ref a)])) _
    exact kq)
  obtain ⟨T46, h46, X46, e46, W46, st46⟩ := putF X43 hx hZ hown (host := "") (Or.inl (hw _ (List.mem_of_getElem? (i := 23) rfl))) Via.refl e43 F0 E (Or.inr ⟨(hw _ (List.mem_of_getElem? (i := 126) rfl)), rfl, hnm⟩) (hw _ (List.mem_of_getElem? (i := 109) rfl)) (ty := .float) (by decide) rfl rfl (g := (mkF m 86 #[.val (.ref a), .val (.int (16 : Int32)), .val (.float (1061158912 : UInt32))] [(.float (1061158912 : UInt32)), (.ref a)])) rfl rfl (hb hby d16_86)
  have N46 := Fr.snoc X46 N43 ga
  have fw46 := F0.same W46
  have G47 : Go p e below A0 (T46.setTop (mkF m 89 #[.val (.ref a), .val (.int (16 : Int32)), .val (.float (1061158912 : UInt32))] [])) := fun tq kq => G45 tq (st46 _ kq)
  have G48 : Go p e below A0 (T46.setTop (mkF m 91 #[.val (.ref a), .val (.int (16 : Int32)), .val (.float (1061158912 : UInt32))] [(.int (16 : Int32)), (.ref a)])) := fun tq kq => G47 tq (by
    refine XS.aloadN X46.here hx rfl (hb hby d16_89) rfl rfl ?_
    show Steps p.tables e below (T46.setTop (mkF m 90 #[.val (.ref a), .val (.int (16 : Int32)), .val (.float (1061158912 : UInt32))] [(.ref a)])) _
    refine XS.iloadN X46.here hx rfl (hb hby d16_90) rfl ?_
    show Steps p.tables e below (T46.setTop (mkF m 91 #[.val (.ref a), .val (.int (16 : Int32)), .val (.float (1061158912 : UInt32))] [(.int (16 : Int32)), (.ref a)])) _
    exact kq)
  have f50 := (Nat.le_trans Z0 (Keep.of_wr W46).1)
  obtain ⟨_, _, ⟨T49, L49, k49, n49⟩, -, X49, ⟨Lc49, hQ49, l49, y49, z49⟩, st49⟩ := Jvm.LawKit.callS X46 hx (y := (⟨"java/util/HashMap", "tableSizeFor", "(I)I"⟩ : MethodName)) hown (mvT hZ (hw _ (List.mem_of_getElem? (i := 127) rfl))) (mvT hZ (hw _ (List.mem_of_getElem? (i := 128) rfl))) (mvT hZ (hw _ (List.mem_of_getElem? (i := 11) rfl))) (mvT hZ (hw _ (List.mem_of_getElem? (i := 129) rfl))) (by decide) (backOf (W := 1) (rm18 l Z a0 hw [] h46 n0 f50) hZ (hw _ (List.mem_of_getElem? (i := 129) rfl)) (hw _ (List.mem_of_getElem? (i := 11) rfl)) (by decide) (by decide)) (g := (mkF m 91 #[.val (.ref a), .val (.int (16 : Int32)), .val (.float (1061158912 : UInt32))] [(.int (16 : Int32)), (.ref a)])) rfl (by rw [hml]; rfl) (argsL := [(.int (16 : Int32))]) (rest := [(.ref a)]) (lenOf pd_1 rfl) rfl (by show 2 * 0 + _ ≤ _; exact Nat.le_of_eq rfl) (hb hby d16_91) (fun _ _ => ⟨rfl, e46, (by decide : 0 + 0 ≤ _), (by decide : 0 + 0 ≤ _)⟩)
  dsimp only [Pt.U, Pt.locs, Pt.cells, Pt.slots] at X49 l49 y49 z49 st49 hQ49
  obtain rfl : k49 = 0 := y49
  obtain rfl : n49 = 0 := z49
  obtain ⟨rfl, N49q, e49⟩ := hQ49
  have N49 : Fr n0 L49 := by rw [l49]; exact Fr.app N46 N49q
  have G51 : Go p e below A0 (T49.setTop (mkF m 94 #[.val (.ref a), .val (.int (16 : Int32)), .val (.float (1061158912 : UInt32))] [(.int (16 : Int32)), (.ref a)])) := fun tq kq => G48 tq (st49 _ kq)
  have f52 := (E.wr W46)
  have f53 := (F1.other W46 (Or.inr (slot_ne (Or.inl (hw _ (List.mem_of_getElem? (i := 136) rfl))) (Or.inr (hw _ (List.mem_of_getElem? (i := 126) rfl))) (by decide) (t := .int) (t' := .float) (by decide) (by decide))))
  obtain ⟨T54, h54, X54, e54, W54, st54⟩ := putF X49 hx hZ hown (host := "") (Or.inl (hw _ (List.mem_of_getElem? (i := 135) rfl))) Via.refl e49 f53 f52 (Or.inl (hw _ (List.mem_of_getElem? (i := 136) rfl))) (hw _ (List.mem_of_getElem? (i := 109) rfl)) (ty := .int) (by decide) rfl rfl (g := (mkF m 94 #[.val (.ref a), .val (.int (16 : Int32)), .val (.float (1061158912 : UInt32))] [(.int (16 : Int32)), (.ref a)])) rfl rfl (hb hby d16_94)
  have N54 := Fr.snoc X54 N49 ga
  have fw54 := f53.same W54
  have G55 : Go p e below A0 (T54.setTop (mkF m 97 #[.val (.ref a), .val (.int (16 : Int32)), .val (.float (1061158912 : UInt32))] [])) := fun tq kq => G51 tq (st54 _ kq)
  have f56 := (fw46.other W54 (Or.inr (slot_ne (Or.inr (hw _ (List.mem_of_getElem? (i := 126) rfl))) (Or.inl (hw _ (List.mem_of_getElem? (i := 136) rfl))) (by decide) (t := .float) (t' := .int) (by decide) (by decide))))
  have f57 := ((F2.other W46 (Or.inr (slot_ne (Or.inl (hw _ (List.mem_of_getElem? (i := 138) rfl))) (Or.inr (hw _ (List.mem_of_getElem? (i := 126) rfl))) (by decide) (t := .int) (t' := .float) (by decide) (by decide)))).other W54 (Or.inr (slot_ne (Or.inl (hw _ (List.mem_of_getElem? (i := 138) rfl))) (Or.inl (hw _ (List.mem_of_getElem? (i := 136) rfl))) (by decide) (t := .int) (t' := .int) (by decide) (by decide))))
  have f58 := ((F3.other W46 (Or.inr (slot_ne (Or.inr (hw _ (List.mem_of_getElem? (i := 140) rfl))) (Or.inr (hw _ (List.mem_of_getElem? (i := 126) rfl))) (by decide) (t := .boolean) (t' := .float) (by decide) (by decide)))).other W54 (Or.inr (slot_ne (Or.inr (hw _ (List.mem_of_getElem? (i := 140) rfl))) (Or.inl (hw _ (List.mem_of_getElem? (i := 136) rfl))) (by decide) (t := .boolean) (t' := .int) (by decide) (by decide))))
  obtain ⟨fs, hr, hrun, hended, hW, hsame⟩ := X54.leave (v := none) (fun _ => rfl)
  refine ⟨_, _, (by rw [← hA0]; exact G55 _ (X54.returnOut hx Bd.returns (hb hby d16_97) hr)), hrun, hended, _, _, rfl, ?_, ⟨_, rfl⟩, hW, hsame.mono (by decide) (by decide)⟩
  show Qc16 Z a h0 n0 _ T54.heap _
  rw [e54]
  exact ⟨rfl, N54, (((Keep.refl h0 [a]).wr W46 (Or.inl (List.mem_of_getElem? (i := 0) rfl))).wr W54 (Or.inl (List.mem_of_getElem? (i := 0) rfl))), ⟨_, f56⟩, ⟨_, fw54⟩, ⟨_, f57⟩, ⟨_, f58⟩⟩
def Qc15 (Z : State) (a : Addr) (h0 : Heap) (n0 : Nat) (v : Option Value) (h : Heap) (L : List Loc) : Prop := v = none ∧ Fr n0 L ∧ Keep h0 h [a] ∧ (∃ x, Fld Z h a "java/util/HashMap" "loadFactor" "F" x) ∧ (∃ x, Fld Z h a "java/util/HashMap" "threshold" "I" x) ∧ (∃ x, Fld Z h a "java/util/LinkedHashMap" "putMode" "I" x) ∧ (∃ x, Fld Z h a "java/util/LinkedHashMap" "accessOrder" "Z" x)
set_option maxRecDepth 65536 in
set_option maxHeartbeats 40000000 in
theorem rm15 (l : Launch) (Z : State) (a0 : Array Value) (hw : ∀ d ∈ tables_1, d.before a0 Z = true) (ws : List Jvm.Cond) (a : Addr)   (h0 : Heap) (n0 : Nat) (Z0 : n0 ≤ h0.size) (E : Exa Z h0 a "java/util/LinkedHashMap") (ga : n0 ≤ a) (hF0 : ∃ x, Fld Z h0 a "java/util/HashMap" "loadFactor" "F" x) (hF1 : ∃ x, Fld Z h0 a "java/util/HashMap" "threshold" "I" x) (hF2 : ∃ x, Fld Z h0 a "java/util/LinkedHashMap" "putMode" "I" x) (hF3 : ∃ x, Fld Z h0 a "java/util/LinkedHashMap" "accessOrder" "Z" x) :
    MetFree l (⟨"java/util/LinkedHashMap", "<init>", "(IF)V"⟩ : MethodName) (head1 (Jvm.Cond.code (⟨"java/util/LinkedHashMap", "<init>", "(IF)V"⟩ : MethodName) jdk_94_method_14_code 3 none :: ws) ({ frames := 3, cells := 0, slots := 0, locals := 42 } : Room)) (fun aa UU => aa = #[(.ref a), (.int (16 : Int32)), (.float (1061158912 : UInt32))] ∧ Z.Warmed39 UU.vm ∧ UU.heap = h0) (fun _ _ _ _ _ => True) (fun _ UU oo U' => ∃ v L, oo = .returned v ∧ Qc15 Z a h0 n0 v U'.heap L ∧ FrameEnd UU oo U' L ({ frames := 3, cells := 0, slots := 0, locals := 42 } : Room).cells ({ frames := 3, cells := 0, slots := 0, locals := 42 } : Room).slots) := by
  refine MetFree.of_bodySF (plainFor_of_name pn_7) hisR ?_
  intro p e s m args below meth c s₁ Bd hml0 hP hK
  obtain ⟨rfl, hZ, hh⟩ := hP
  have hx := Bd.exec
  have hby := Bd.bytes
  have hml : c.maxLocals = 3 := hml0
  have hown : s.vm.findClass "java/util/LinkedHashMap" = some m.cls := findClass_of_methodNamed Bd.named
  have hnm := (name_of_methodNamed Bd.named Bd.method).1
  have X0 : Stand p l e ({ frames := 3, cells := 0, slots := 0, locals := 42 } : Room) s m #[(.ref a), (.int (16 : Int32)), (.float (1061158912 : UInt32))] below meth c s₁ [] 0 0 := Stand.of_body Bd
  have e0 : s₁.heap = h0 := by rw [← hh, Bd.state]; rfl
  have N0 := Fr.nil n0
  obtain ⟨A0, hA0⟩ : ∃ A, A = s₁.setTop (entryFrame m #[(.ref a), (.int (16 : Int32)), (.float (1061158912 : UInt32))] 3) := ⟨_, rfl⟩
  have G0 : Go p e below A0 (s₁.setTop (mkF m 0 #[.val (.ref a), .val (.int (16 : Int32)), .val (.float (1061158912 : UInt32))] [])) := fun tq kq => by rw [hA0]; exact castTop (ef_rm15 m a (16 : Int32) (1061158912 : UInt32)) kq
  obtain ⟨u0, F0⟩ := hF0
  obtain ⟨u1, F1⟩ := hF1
  obtain ⟨u2, F2⟩ := hF2
  obtain ⟨u3, F3⟩ := hF3
  have G59 : Go p e below A0 (s₁.setTop (mkF m 3 #[.val (.ref a), .val (.int (16 : Int32)), .val (.float (1061158912 : UInt32))] [(.float (1061158912 : UInt32)), (.int (16 : Int32)), (.ref a)])) := fun tq kq => G0 tq (by
    refine XS.aloadN X0.here hx rfl (hb hby d15_0) rfl rfl ?_
    show Steps p.tables e below (s₁.setTop (mkF m 1 #[.val (.ref a), .val (.int (16 : Int32)), .val (.float (1061158912 : UInt32))] [(.ref a)])) _
    refine XS.iloadN X0.here hx rfl (hb hby d15_1) rfl ?_
    show Steps p.tables e below (s₁.setTop (mkF m 2 #[.val (.ref a), .val (.int (16 : Int32)), .val (.float (1061158912 : UInt32))] [(.int (16 : Int32)), (.ref a)])) _
    refine XS.floadN X0.here hx rfl (hb hby d15_2) rfl ?_
    show Steps p.tables e below (s₁.setTop (mkF m 3 #[.val (.ref a), .val (.int (16 : Int32)), .val (.float (1061158912 : UInt32))] [(.float (1061158912 : UInt32)), (.int (16 : Int32)), (.ref a)])) _
    exact kq)
  obtain ⟨_, _, ⟨T60, L60, k60, n60⟩, -, X60, ⟨Lc60, hQ60, l60, y60, z60⟩, st60⟩ := X0.specialBack hx (y := (⟨"java/util/HashMap", "<init>", "(IF)V"⟩ : MethodName)) rfl hown (mvT hZ (hw _ (List.mem_of_getElem? (i := 115) rfl))) (mvT hZ (hw _ (List.mem_of_getElem? (i := 116) rfl))) (mvT hZ (hw _ (List.mem_of_getElem? (i := 119) rfl))) (by decide) (backOf (W := 0) (rm16 l Z a0 hw [] a   h0 n0 Z0 E ga ⟨_, F0⟩ ⟨_, F1⟩ ⟨_, F2⟩ ⟨_, F3⟩ ) hZ (hw _ (List.mem_of_getElem? (i := 119) rfl)) (hw _ (List.mem_of_getElem? (i := 11) rfl)) (by decide) (by decide)) (g := (mkF m 3 #[.val (.ref a), .val (.int (16 : Int32)), .val (.float (1061158912 : UInt32))] [(.float (1061158912 : UInt32)), (.int (16 : Int32)), (.ref a)])) rfl (by rw [hml]; rfl) (Steps.refl _) (a := a) (argsL := [(.int (16 : Int32)), (.float (1061158912 : UInt32))]) (rest := []) (lenOf pd_3 rfl) rfl (by show 2 * 0 + _ ≤ _; exact Nat.le_of_eq rfl) (hb hby d15_3) (fun _ _ => ⟨rfl, e0, (by decide : 0 + 0 ≤ _), (by decide : 0 + 0 ≤ _)⟩)
  dsimp only [Pt.U, Pt.locs, Pt.cells, Pt.slots] at X60 l60 y60 z60 st60 hQ60
  obtain rfl : k60 = 0 := y60
  obtain rfl : n60 = 0 := z60
  obtain ⟨rfl, N60q, K60, ⟨x60_0, F60_0⟩, ⟨x60_1, F60_1⟩, ⟨x60_2, F60_2⟩, ⟨x60_3, F60_3⟩⟩ := hQ60
  have N60 : Fr n0 L60 := by rw [l60]; exact Fr.app N0 N60q
  have G61 : Go p e below A0 (T60.setTop (mkF m 6 #[.val (.ref a), .val (.int (16 : Int32)), .val (.float (1061158912 : UInt32))] [])) := fun tq kq => G59 tq (st60.trans kq)
  have G62 : Go p e below A0 (T60.setTop (mkF m 8 #[.val (.ref a), .val (.int (16 : Int32)), .val (.float (1061158912 : UInt32))] [(.int (0 : Int32)), (.ref a)])) := fun tq kq => G61 tq (by
    refine XS.aloadN X60.here hx rfl (hb hby d15_6) rfl rfl ?_
    show Steps p.tables e below (T60.setTop (mkF m 7 #[.val (.ref a), .val (.int (16 : Int32)), .val (.float (1061158912 : UInt32))] [(.ref a)])) _
    refine XS.iconst X60.here hx rfl (hb hby d15_7) ?_
    show Steps p.tables e below (T60.setTop (mkF m 8 #[.val (.ref a), .val (.int (16 : Int32)), .val (.float (1061158912 : UInt32))] [(.int (0 : Int32)), (.ref a)])) _
    exact kq)
  have f63 := (E.keep K60)
  obtain ⟨T64, h64, X64, e64, W64, st64⟩ := putF X60 hx hZ hown (host := "") (Or.inl (hw _ (List.mem_of_getElem? (i := 137) rfl))) Via.refl rfl F60_2 f63 (Or.inl (hw _ (List.mem_of_getElem? (i := 138) rfl))) (hw _ (List.mem_of_getElem? (i := 109) rfl)) (ty := .int) (by decide) rfl rfl (g := (mkF m 8 #[.val (.ref a), .val (.int (16 : Int32)), .val (.float (1061158912 : UInt32))] [(.int (0 : Int32)), (.ref a)])) rfl rfl (hb hby d15_8)
  have N64 := Fr.snoc X64 N60 ga
  have fw64 := F60_2.same W64
  have G65 : Go p e below A0 (T64.setTop (mkF m 11 #[.val (.ref a), .val (.int (16 : Int32)), .val (.float (1061158912 : UInt32))] [])) := fun tq kq => G62 tq (st64 _ kq)
  have G66 : Go p e below A0 (T64.setTop (mkF m 13 #[.val (.ref a), .val (.int (16 : Int32)), .val (.float (1061158912 : UInt32))] [(.int (0 : Int32)), (.ref a)])) := fun tq kq => G65 tq (by
    refine XS.aloadN X64.here hx rfl (hb hby d15_11) rfl rfl ?_
    show Steps p.tables e below (T64.setTop (mkF m 12 #[.val (.ref a), .val (.int (16 : Int32)), .val (.float (1061158912 : UInt32))] [(.ref a)])) _
    refine XS.iconst X64.here hx rfl (hb hby d15_12) ?_
    show Steps p.tables e below (T64.setTop (mkF m 13 #[.val (.ref a), .val (.int (16 : Int32)), .val (.float (1061158912 : UInt32))] [(.int (0 : Int32)), (.ref a)])) _
    exact kq)
  have f67 := (f63.wr W64)
  have f68 := (F60_3.other W64 (Or.inr (slot_ne (Or.inr (hw _ (List.mem_of_getElem? (i := 140) rfl))) (Or.inl (hw _ (List.mem_of_getElem? (i := 138) rfl))) (by decide) (t := .boolean) (t' := .int) (by decide) (by decide))))
  obtain ⟨T69, h69, X69, e69, W69, st69⟩ := putFN X64 hx hZ hown (hw _ (List.mem_of_getElem? (i := 139) rfl)) Via.refl e64 f68 f67 (Or.inr ⟨(hw _ (List.mem_of_getElem? (i := 140) rfl)), rfl, hnm⟩) (hw _ (List.mem_of_getElem? (i := 109) rfl)) (ty := .boolean) (v' := (.int (0 : Int32))) (by decide) rfl rfl (g := (mkF m 13 #[.val (.ref a), .val (.int (16 : Int32)), .val (.float (1061158912 : UInt32))] [(.int (0 : Int32)), (.ref a)])) rfl rfl (hb hby d15_13)
  have N69 := Fr.snoc X69 N64 ga
  have fw69 := f68.same W69
  have G70 : Go p e below A0 (T69.setTop (mkF m 16 #[.val (.ref a), .val (.int (16 : Int32)), .val (.float (1061158912 : UInt32))] [])) := fun tq kq => G66 tq (st69 _ kq)
  have f71 := ((F60_0.other W64 (Or.inr (slot_ne (Or.inr (hw _ (List.mem_of_getElem? (i := 126) rfl))) (Or.inl (hw _ (List.mem_of_getElem? (i := 138) rfl))) (by decide) (t := .float) (t' := .int) (by decide) (by decide)))).other W69 (Or.inr (slot_ne (Or.inr (hw _ (List.mem_of_getElem? (i := 126) rfl))) (Or.inr (hw _ (List.mem_of_getElem? (i := 140) rfl))) (by decide) (t := .float) (t' := .boolean) (by decide) (by decide))))
  have f72 := ((F60_1.other W64 (Or.inr (slot_ne (Or.inl (hw _ (List.mem_of_getElem? (i := 136) rfl))) (Or.inl (hw _ (List.mem_of_getElem? (i := 138) rfl))) (by decide) (t := .int) (t' := .int) (by decide) (by decide)))).other W69 (Or.inr (slot_ne (Or.inl (hw _ (List.mem_of_getElem? (i := 136) rfl))) (Or.inr (hw _ (List.mem_of_getElem? (i := 140) rfl))) (by decide) (t := .int) (t' := .boolean) (by decide) (by decide))))
  have f73 := (fw64.other W69 (Or.inr (slot_ne (Or.inl (hw _ (List.mem_of_getElem? (i := 138) rfl))) (Or.inr (hw _ (List.mem_of_getElem? (i := 140) rfl))) (by decide) (t := .int) (t' := .boolean) (by decide) (by decide))))
  obtain ⟨fs, hr, hrun, hended, hW, hsame⟩ := X69.leave (v := none) (fun _ => rfl)
  refine ⟨_, _, (by rw [← hA0]; exact G70 _ (X69.returnOut hx Bd.returns (hb hby d15_16) hr)), hrun, hended, _, _, rfl, ?_, ⟨_, rfl⟩, hW, hsame.mono (by decide) (by decide)⟩
  show Qc15 Z a h0 n0 _ T69.heap _
  rw [e69]
  exact ⟨rfl, N69, ((((Keep.refl h0 [a]).trans K60 (allS (P := fun x => x ∈ [a] ∨ h0.size ≤ x) (Or.inl (List.mem_of_getElem? (i := 0) rfl)) all0)).wr W64 (Or.inl (List.mem_of_getElem? (i := 0) rfl))).wr W69 (Or.inl (List.mem_of_getElem? (i := 0) rfl))), ⟨_, f71⟩, ⟨_, f72⟩, ⟨_, f73⟩, ⟨_, fw69⟩⟩
def Qc13 (Z : State) (a : Addr) (h0 : Heap) (n0 : Nat) (v : Option Value) (h : Heap) (L : List Loc) : Prop := v = none ∧ Fr n0 L ∧ Keep h0 h [a] ∧ (∃ x, Fld Z h a "java/util/HashSet" "map" "Ljava/util/HashMap;" x)
set_option maxRecDepth 65536 in
set_option maxHeartbeats 40000000 in
theorem rm13 (l : Launch) (Z : State) (a0 : Array Value) (hw : ∀ d ∈ tables_1, d.before a0 Z = true) (ws : List Jvm.Cond) (a : Addr)   (h0 : Heap) (n0 : Nat) (Z0 : n0 ≤ h0.size) (E : Exa Z h0 a "java/util/LinkedHashSet") (ga : n0 ≤ a) (hF0 : ∃ x, Fld Z h0 a "java/util/HashSet" "map" "Ljava/util/HashMap;" x) :
    MetFree l (⟨"java/util/HashSet", "<init>", "(IFZ)V"⟩ : MethodName) (head1 (Jvm.Cond.code (⟨"java/util/HashSet", "<init>", "(IFZ)V"⟩ : MethodName) jdk_93_method_5_code 4 none :: ws) ({ frames := 4, cells := 1, slots := 12, locals := 58 } : Room)) (fun aa UU => aa = #[(.ref a), (.int (16 : Int32)), (.float (1061158912 : UInt32)), (.int (1 : Int32))] ∧ Z.Warmed39 UU.vm ∧ UU.heap = h0) (fun _ _ _ _ _ => True) (fun _ UU oo U' => ∃ v L, oo = .returned v ∧ Qc13 Z a h0 n0 v U'.heap L ∧ FrameEnd UU oo U' L ({ frames := 4, cells := 1, slots := 12, locals := 58 } : Room).cells ({ frames := 4, cells := 1, slots := 12, locals := 58 } : Room).slots) := by
  refine MetFree.of_bodySF (plainFor_of_name pn_8) hisR ?_
  intro p e s m args below meth c s₁ Bd hml0 hP hK
  obtain ⟨rfl, hZ, hh⟩ := hP
  have hx := Bd.exec
  have hby := Bd.bytes
  have hml : c.maxLocals = 4 := hml0
  have hown : s.vm.findClass "java/util/HashSet" = some m.cls := findClass_of_methodNamed Bd.named
  have hnm := (name_of_methodNamed Bd.named Bd.method).1
  have X0 : Stand p l e ({ frames := 4, cells := 1, slots := 12, locals := 58 } : Room) s m #[(.ref a), (.int (16 : Int32)), (.float (1061158912 : UInt32)), (.int (1 : Int32))] below meth c s₁ [] 0 0 := Stand.of_body Bd
  have e0 : s₁.heap = h0 := by rw [← hh, Bd.state]; rfl
  have N0 := Fr.nil n0
  obtain ⟨A0, hA0⟩ : ∃ A, A = s₁.setTop (entryFrame m #[(.ref a), (.int (16 : Int32)), (.float (1061158912 : UInt32)), (.int (1 : Int32))] 4) := ⟨_, rfl⟩
  have G0 : Go p e below A0 (s₁.setTop (mkF m 0 #[.val (.ref a), .val (.int (16 : Int32)), .val (.float (1061158912 : UInt32)), .val (.int (1 : Int32))] [])) := fun tq kq => by rw [hA0]; exact castTop (ef_rm13 m a (16 : Int32) (1061158912 : UInt32) (1 : Int32)) kq
  obtain ⟨u0, F0⟩ := hF0
  have G74 : Go p e below A0 (s₁.setTop (mkF m 1 #[.val (.ref a), .val (.int (16 : Int32)), .val (.float (1061158912 : UInt32)), .val (.int (1 : Int32))] [(.ref a)])) := fun tq kq => G0 tq (by
    refine XS.aloadN X0.here hx rfl (hb hby d13_0) rfl rfl ?_
    show Steps p.tables e below (s₁.setTop (mkF m 1 #[.val (.ref a), .val (.int (16 : Int32)), .val (.float (1061158912 : UInt32)), .val (.int (1 : Int32))] [(.ref a)])) _
    exact kq)
  obtain ⟨_, _, ⟨T75, L75, k75, n75⟩, -, X75, ⟨Lc75, hQ75, l75, y75, z75⟩, st75⟩ := X0.specialBack hx (y := (⟨"java/util/AbstractSet", "<init>", "()V"⟩ : MethodName)) rfl hown (mvT hZ (hw _ (List.mem_of_getElem? (i := 100) rfl))) (mvT hZ (hw _ (List.mem_of_getElem? (i := 101) rfl))) (mvT hZ (hw _ (List.mem_of_getElem? (i := 105) rfl))) (by decide) (backOf (W := 0) (rm14 l Z a0 hw [] a h0 n0 Z0) hZ (hw _ (List.mem_of_getElem? (i := 105) rfl)) (hw _ (List.mem_of_getElem? (i := 104) rfl)) (by decide) (by decide)) (g := (mkF m 1 #[.val (.ref a), .val (.int (16 : Int32)), .val (.float (1061158912 : UInt32)), .val (.int (1 : Int32))] [(.ref a)])) rfl (by rw [hml]; rfl) (Steps.refl _) (a := a) (argsL := []) (rest := []) (lenOf pd_0 rfl) rfl (by show 2 * 0 + _ ≤ _; exact Nat.le_of_eq rfl) (hb hby d13_1) (fun _ _ => ⟨rfl, e0, (by decide : 0 + 0 ≤ _), (by decide : 0 + 0 ≤ _)⟩)
  dsimp only [Pt.U, Pt.locs, Pt.cells, Pt.slots] at X75 l75 y75 z75 st75 hQ75
  obtain rfl : k75 = 0 := y75
  obtain rfl : n75 = 0 := z75
  obtain ⟨rfl, N75q, e75⟩ := hQ75
  have N75 : Fr n0 L75 := by rw [l75]; exact Fr.app N0 N75q
  have G76 : Go p e below A0 (T75.setTop (mkF m 4 #[.val (.ref a), .val (.int (16 : Int32)), .val (.float (1061158912 : UInt32)), .val (.int (1 : Int32))] [])) := fun tq kq => G74 tq (st75.trans kq)
  have G77 : Go p e below A0 (T75.setTop (mkF m 5 #[.val (.ref a), .val (.int (16 : Int32)), .val (.float (1061158912 : UInt32)), .val (.int (1 : Int32))] [(.ref a)])) := fun tq kq => G76 tq (by
    refine XS.aloadN X75.here hx rfl (hb hby d13_4) rfl rfl ?_
    show Steps p.tables e below (T75.setTop (mkF m 5 #[.val (.ref a), .val (.int (16 : Int32)), .val (.float (1061158912 : UInt32)), .val (.int (1 : Int32))] [(.ref a)])) _
    exact kq)
  obtain ⟨T78, h78, X78, e78, E78, A78, D78, -, st78⟩ := newO X75 hx hZ hown (hw _ (List.mem_of_getElem? (i := 108) rfl)) (hw _ (List.mem_of_getElem? (i := 109) rfl)) (hw _ (List.mem_of_getElem? (i := 110) rfl)) e75 (g := (mkF m 5 #[.val (.ref a), .val (.int (16 : Int32)), .val (.float (1061158912 : UInt32)), .val (.int (1 : Int32))] [(.ref a)])) rfl (hb hby d13_5) (by decide) (by decide)
  obtain ⟨b78, g78⟩ : ∃ z, z = h0.size := ⟨_, rfl⟩
  rw [← g78] at A78 D78 st78
  have sz_b78 : h0.size ≤ b78 := Nat.le_trans (Nat.le_refl h0.size) (Nat.le_of_eq g78.symm)
  have g_b78 : n0 ≤ b78 := Nat.le_trans Z0 (Nat.le_of_eq g78.symm)
  have ne_a_b78 : a ≠ b78 := Nat.ne_of_lt (Nat.lt_of_lt_of_le E.lt (Nat.le_of_eq g78.symm))
  have F78_loadFactor : Fld Z h78 b78 "java/util/HashMap" "loadFactor" "F" (.float (0 : UInt32)) := D78 (Or.inr (hw _ (List.mem_of_getElem? (i := 126) rfl))) (ty := .float) (by decide)
  have F78_threshold : Fld Z h78 b78 "java/util/HashMap" "threshold" "I" (.int (0 : Int32)) := D78 (Or.inl (hw _ (List.mem_of_getElem? (i := 136) rfl))) (ty := .int) (by decide)
  have F78_putMode : Fld Z h78 b78 "java/util/LinkedHashMap" "putMode" "I" (.int (0 : Int32)) := D78 (Or.inl (hw _ (List.mem_of_getElem? (i := 138) rfl))) (ty := .int) (by decide)
  have F78_accessOrder : Fld Z h78 b78 "java/util/LinkedHashMap" "accessOrder" "Z" (.int (0 : Int32)) := D78 (Or.inr (hw _ (List.mem_of_getElem? (i := 140) rfl))) (ty := .boolean) (by decide)
  have G79 : Go p e below A0 (T78.setTop (mkF m 8 #[.val (.ref a), .val (.int (16 : Int32)), .val (.float (1061158912 : UInt32)), .val (.int (1 : Int32))] [(.ref b78), (.ref a)])) := fun tq kq => G77 tq (st78 _ kq)
  have G80 : Go p e below A0 (T78.setTop (mkF m 11 #[.val (.ref a), .val (.int (16 : Int32)), .val (.float (1061158912 : UInt32)), .val (.int (1 : Int32))] [(.float (1061158912 : UInt32)), (.int (16 : Int32)), (.ref b78), (.ref b78), (.ref a)])) := fun tq kq => G79 tq (by
    refine XS.dup X78.here hx rfl (hb hby d13_8) rfl rfl ?_
    show Steps p.tables e below (T78.setTop (mkF m 9 #[.val (.ref a), .val (.int (16 : Int32)), .val (.float (1061158912 : UInt32)), .val (.int (1 : Int32))] [(.ref b78), (.ref b78), (.ref a)])) _
    refine XS.iloadN X78.here hx rfl (hb hby d13_9) rfl ?_
    show Steps p.tables e below (T78.setTop (mkF m 10 #[.val (.ref a), .val (.int (16 : Int32)), .val (.float (1061158912 : UInt32)), .val (.int (1 : Int32))] [(.int (16 : Int32)), (.ref b78), (.ref b78), (.ref a)])) _
    refine XS.floadN X78.here hx rfl (hb hby d13_10) rfl ?_
    show Steps p.tables e below (T78.setTop (mkF m 11 #[.val (.ref a), .val (.int (16 : Int32)), .val (.float (1061158912 : UInt32)), .val (.int (1 : Int32))] [(.float (1061158912 : UInt32)), (.int (16 : Int32)), (.ref b78), (.ref b78), (.ref a)])) _
    exact kq)
  have f82 := (Nat.le_trans Z0 E78.1)
  obtain ⟨_, _, ⟨T81, L81, k81, n81⟩, -, X81, ⟨Lc81, hQ81, l81, y81, z81⟩, st81⟩ := X78.specialBack hx (y := (⟨"java/util/LinkedHashMap", "<init>", "(IF)V"⟩ : MethodName)) rfl hown (mvT hZ (hw _ (List.mem_of_getElem? (i := 111) rfl))) (mvT hZ (hw _ (List.mem_of_getElem? (i := 112) rfl))) (mvT hZ (hw _ (List.mem_of_getElem? (i := 114) rfl))) (by decide) (backOf (W := 2) (rm15 l Z a0 hw [] b78   h78 n0 f82 A78 g_b78 ⟨_, F78_loadFactor⟩ ⟨_, F78_threshold⟩ ⟨_, F78_putMode⟩ ⟨_, F78_accessOrder⟩ ) hZ (hw _ (List.mem_of_getElem? (i := 114) rfl)) (hw _ (List.mem_of_getElem? (i := 110) rfl)) (by decide) (by decide)) (g := (mkF m 11 #[.val (.ref a), .val (.int (16 : Int32)), .val (.float (1061158912 : UInt32)), .val (.int (1 : Int32))] [(.float (1061158912 : UInt32)), (.int (16 : Int32)), (.ref b78), (.ref b78), (.ref a)])) rfl (by rw [hml]; rfl) (Steps.refl _) (a := b78) (argsL := [(.int (16 : Int32)), (.float (1061158912 : UInt32))]) (rest := [(.ref b78), (.ref a)]) (lenOf pd_3 rfl) rfl (by show 2 * 0 + _ ≤ _; exact Nat.le_of_eq rfl) (hb hby d13_11) (fun _ _ => ⟨rfl, e78, (by decide : 1 + 0 ≤ _), (by decide : 12 + 0 ≤ _)⟩)
  dsimp only [Pt.U, Pt.locs, Pt.cells, Pt.slots] at X81 l81 y81 z81 st81 hQ81
  obtain rfl : k81 = 1 := y81
  obtain rfl : n81 = 12 := z81
  obtain ⟨rfl, N81q, K81, ⟨x81_0, F81_0⟩, ⟨x81_1, F81_1⟩, ⟨x81_2, F81_2⟩, ⟨x81_3, F81_3⟩⟩ := hQ81
  have N81 : Fr n0 L81 := by rw [l81]; exact Fr.app N75 N81q
  have G83 : Go p e below A0 (T81.setTop (mkF m 14 #[.val (.ref a), .val (.int (16 : Int32)), .val (.float (1061158912 : UInt32)), .val (.int (1 : Int32))] [(.ref b78), (.ref a)])) := fun tq kq => G80 tq (st81.trans kq)
  have f84 := ((E.ext E78).keep K81)
  have f85 := ((F0.ext E78).keep K81 (ninS ne_a_b78 nin0))
  obtain ⟨T86, h86, X86, e86, W86, st86⟩ := putF X81 hx hZ hown (host := "") (Or.inl (hw _ (List.mem_of_getElem? (i := 141) rfl))) Via.refl rfl f85 f84 (Or.inl (hw _ (List.mem_of_getElem? (i := 142) rfl))) (hw _ (List.mem_of_getElem? (i := 88) rfl)) (ty := (.object "java/util/HashMap")) (by decide) rfl rfl (g := (mkF m 14 #[.val (.ref a), .val (.int (16 : Int32)), .val (.float (1061158912 : UInt32)), .val (.int (1 : Int32))] [(.ref b78), (.ref a)])) rfl rfl (hb hby d13_14)
  have N86 := Fr.snoc X86 N81 ga
  have fw86 := f85.same W86
  have G87 : Go p e below A0 (T86.setTop (mkF m 17 #[.val (.ref a), .val (.int (16 : Int32)), .val (.float (1061158912 : UInt32)), .val (.int (1 : Int32))] [])) := fun tq kq => G83 tq (st86 _ kq)
  obtain ⟨fs, hr, hrun, hended, hW, hsame⟩ := X86.leave (v := none) (fun _ => rfl)
  refine ⟨_, _, (by rw [← hA0]; exact G87 _ (X86.returnOut hx Bd.returns (hb hby d13_17) hr)), hrun, hended, _, _, rfl, ?_, ⟨_, rfl⟩, hW, hsame.mono (by decide) (by decide)⟩
  show Qc13 Z a h0 n0 _ T86.heap _
  rw [e86]
  exact ⟨rfl, N86, ((((Keep.refl h0 [a]).ext E78).trans K81 (allS (P := fun x => x ∈ [a] ∨ h0.size ≤ x) (Or.inr sz_b78) all0)).wr W86 (Or.inl (List.mem_of_getElem? (i := 0) rfl))), ⟨_, fw86⟩⟩
def Qc12 (Z : State) (a : Addr) (h0 : Heap) (n0 : Nat) (v : Option Value) (h : Heap) (L : List Loc) : Prop := v = none ∧ Fr n0 L ∧ Keep h0 h [a] ∧ (∃ x, Fld Z h a "java/util/HashSet" "map" "Ljava/util/HashMap;" x)
set_option maxRecDepth 65536 in
set_option maxHeartbeats 40000000 in
theorem rm12 (l : Launch) (Z : State) (a0 : Array Value) (hw : ∀ d ∈ tables_1, d.before a0 Z = true) (ws : List Jvm.Cond) (a : Addr)   (h0 : Heap) (n0 : Nat) (Z0 : n0 ≤ h0.size) (E : Exa Z h0 a "java/util/LinkedHashSet") (ga : n0 ≤ a) (hF0 : ∃ x, Fld Z h0 a "java/util/HashSet" "map" "Ljava/util/HashMap;" x) :
    MetFree l (⟨"java/util/LinkedHashSet", "<init>", "()V"⟩ : MethodName) (head1 (Jvm.Cond.code (⟨"java/util/LinkedHashSet", "<init>", "()V"⟩ : MethodName) jdk_2620_method_3_code 1 none :: ws) ({ frames := 5, cells := 1, slots := 12, locals := 73 } : Room)) (fun aa UU => aa = #[(.ref a)] ∧ Z.Warmed39 UU.vm ∧ UU.heap = h0) (fun _ _ _ _ _ => True) (fun _ UU oo U' => ∃ v L, oo = .returned v ∧ Qc12 Z a h0 n0 v U'.heap L ∧ FrameEnd UU oo U' L ({ frames := 5, cells := 1, slots := 12, locals := 73 } : Room).cells ({ frames := 5, cells := 1, slots := 12, locals := 73 } : Room).slots) := by
  refine MetFree.of_bodySF (plainFor_of_name pn_9) hisR ?_
  intro p e s m args below meth c s₁ Bd hml0 hP hK
  obtain ⟨rfl, hZ, hh⟩ := hP
  have hx := Bd.exec
  have hby := Bd.bytes
  have hml : c.maxLocals = 1 := hml0
  have hown : s.vm.findClass "java/util/LinkedHashSet" = some m.cls := findClass_of_methodNamed Bd.named
  have hnm := (name_of_methodNamed Bd.named Bd.method).1
  have X0 : Stand p l e ({ frames := 5, cells := 1, slots := 12, locals := 73 } : Room) s m #[(.ref a)] below meth c s₁ [] 0 0 := Stand.of_body Bd
  have e0 : s₁.heap = h0 := by rw [← hh, Bd.state]; rfl
  have N0 := Fr.nil n0
  obtain ⟨A0, hA0⟩ : ∃ A, A = s₁.setTop (entryFrame m #[(.ref a)] 1) := ⟨_, rfl⟩
  have G0 : Go p e below A0 (s₁.setTop (mkF m 0 #[.val (.ref a)] [])) := fun tq kq => by rw [hA0]; exact castTop (ef_rm12 m a) kq
  obtain ⟨u0, F0⟩ := hF0
  have G88 : Go p e below A0 (s₁.setTop (mkF m 6 #[.val (.ref a)] [(.int (1 : Int32)), (.float (1061158912 : UInt32)), (.int (16 : Int32)), (.ref a)])) := fun tq kq => G0 tq (by
    refine XS.aloadN X0.here hx rfl (hb hby d12_0) rfl rfl ?_
    show Steps p.tables e below (s₁.setTop (mkF m 1 #[.val (.ref a)] [(.ref a)])) _
    refine XS.bipush X0.here hx rfl (hb hby d12_1) ?_
    show Steps p.tables e below (s₁.setTop (mkF m 3 #[.val (.ref a)] [(.int (16 : Int32)), (.ref a)])) _
    refine X0.ldcFloatC hx hown (mvT hZ (hw _ (List.mem_of_getElem? (i := 93) rfl))) (g := (mkF m 3 #[.val (.ref a)] [(.int (16 : Int32)), (.ref a)])) rfl (hb hby d12_3) _ ?_
    show Steps p.tables e below (s₁.setTop (mkF m 5 #[.val (.ref a)] [(.float (1061158912 : UInt32)), (.int (16 : Int32)), (.ref a)])) _
    refine XS.iconst X0.here hx rfl (hb hby d12_5) ?_
    show Steps p.tables e below (s₁.setTop (mkF m 6 #[.val (.ref a)] [(.int (1 : Int32)), (.float (1061158912 : UInt32)), (.int (16 : Int32)), (.ref a)])) _
    exact kq)
  obtain ⟨_, _, ⟨T89, L89, k89, n89⟩, -, X89, ⟨Lc89, hQ89, l89, y89, z89⟩, st89⟩ := X0.specialBack hx (y := (⟨"java/util/HashSet", "<init>", "(IFZ)V"⟩ : MethodName)) rfl hown (mvT hZ (hw _ (List.mem_of_getElem? (i := 94) rfl))) (mvT hZ (hw _ (List.mem_of_getElem? (i := 95) rfl))) (mvT hZ (hw _ (List.mem_of_getElem? (i := 99) rfl))) (by decide) (backOf (W := 0) (rm13 l Z a0 hw [] a   h0 n0 Z0 E ga ⟨_, F0⟩ ) hZ (hw _ (List.mem_of_getElem? (i := 99) rfl)) (hw _ (List.mem_of_getElem? (i := 98) rfl)) (by decide) (by decide)) (g := (mkF m 6 #[.val (.ref a)] [(.int (1 : Int32)), (.float (1061158912 : UInt32)), (.int (16 : Int32)), (.ref a)])) rfl (by rw [hml]; rfl) (Steps.refl _) (a := a) (argsL := [(.int (16 : Int32)), (.float (1061158912 : UInt32)), (.int (1 : Int32))]) (rest := []) (lenOf pd_4 rfl) rfl (by show 2 * 0 + _ ≤ _; exact Nat.le_of_eq rfl) (hb hby d12_6) (fun _ _ => ⟨rfl, e0, (by decide : 0 + 1 ≤ _), (by decide : 0 + 12 ≤ _)⟩)
  dsimp only [Pt.U, Pt.locs, Pt.cells, Pt.slots] at X89 l89 y89 z89 st89 hQ89
  obtain rfl : k89 = 1 := y89
  obtain rfl : n89 = 12 := z89
  obtain ⟨rfl, N89q, K89, ⟨x89_0, F89_0⟩⟩ := hQ89
  have N89 : Fr n0 L89 := by rw [l89]; exact Fr.app N0 N89q
  have G90 : Go p e below A0 (T89.setTop (mkF m 9 #[.val (.ref a)] [])) := fun tq kq => G88 tq (st89.trans kq)
  obtain ⟨fs, hr, hrun, hended, hW, hsame⟩ := X89.leave (v := none) (fun _ => rfl)
  refine ⟨_, _, (by rw [← hA0]; exact G90 _ (X89.returnOut hx Bd.returns (hb hby d12_9) hr)), hrun, hended, _, _, rfl, ?_, ⟨_, rfl⟩, hW, hsame.mono (by decide) (by decide)⟩
  show Qc12 Z a h0 n0 _ T89.heap _
  exact ⟨rfl, N89, ((Keep.refl h0 [a]).trans K89 (allS (P := fun x => x ∈ [a] ∨ h0.size ≤ x) (Or.inl (List.mem_of_getElem? (i := 0) rfl)) all0)), ⟨_, F89_0⟩⟩
def Qh (Z : State) (a : Addr) (r : Option Value) (k ch : Int32) (h0 : Heap) (n0 : Nat) (v : Option Value) (h : Heap) (L : List Loc) : Prop := v = r ∧ Fr n0 L ∧ Keep h0 h [a] ∧ Fld Z h a "com/example/role_delegation/roledelegation/Hierarchy" "numbered" "I" (.int k) ∧ Fld Z h a "com/example/role_delegation/roledelegation/Hierarchy" "changes" "I" (.int ch)
set_option maxRecDepth 65536 in
set_option maxHeartbeats 40000000 in
theorem rm1 (l : Launch) (Z : State) (a0 : Array Value) (hw : ∀ d ∈ tables_1, d.before a0 Z = true) (ws : List Jvm.Cond) (a : Addr) (k ch : Int32) (h0 : Heap) (n0 : Nat) (Z0 : n0 ≤ h0.size) (E : Exa Z h0 a "com/example/role_delegation/roledelegation/Hierarchy") (ga : n0 ≤ a) (F1 : Fld Z h0 a "com/example/role_delegation/roledelegation/Hierarchy" "numbered" "I" (.int k)) (F2 : Fld Z h0 a "com/example/role_delegation/roledelegation/Hierarchy" "changes" "I" (.int ch)) (F3 : Fld Z h0 a "com/example/role_delegation/roledelegation/Hierarchy" "grantedTo" "Ljava/util/Map;" .null) :
    MetFree l (⟨"com/example/role_delegation/roledelegation/Hierarchy", "<init>", "()V"⟩ : MethodName) (head1 (Jvm.Cond.code (⟨"com/example/role_delegation/roledelegation/Hierarchy", "<init>", "()V"⟩ : MethodName) prog_28_method_1_code 1 none :: ws) ({ frames := 3, cells := 1, slots := 8, locals := 38 } : Room)) (fun aa UU => aa = #[(.ref a)] ∧ Z.Warmed39 UU.vm ∧ UU.heap = h0) (fun _ _ _ _ _ => True) (fun _ UU oo U' => ∃ v L, oo = .returned v ∧ Qh Z a none k ch h0 n0 v U'.heap L ∧ FrameEnd UU oo U' L ({ frames := 3, cells := 1, slots := 8, locals := 38 } : Room).cells ({ frames := 3, cells := 1, slots := 8, locals := 38 } : Room).slots) := by
  refine MetFree.of_bodySF (plainFor_of_name pn_10) hisR ?_
  intro p e s m args below meth c s₁ Bd hml0 hP hK
  obtain ⟨rfl, hZ, hh⟩ := hP
  have hx := Bd.exec
  have hby := Bd.bytes
  have hml : c.maxLocals = 1 := hml0
  have hown : s.vm.findClass "com/example/role_delegation/roledelegation/Hierarchy" = some m.cls := findClass_of_methodNamed Bd.named
  have hnm := (name_of_methodNamed Bd.named Bd.method).1
  have X0 : Stand p l e ({ frames := 3, cells := 1, slots := 8, locals := 38 } : Room) s m #[(.ref a)] below meth c s₁ [] 0 0 := Stand.of_body Bd
  have e0 : s₁.heap = h0 := by rw [← hh, Bd.state]; rfl
  have N0 := Fr.nil n0
  obtain ⟨A0, hA0⟩ : ∃ A, A = s₁.setTop (entryFrame m #[(.ref a)] 1) := ⟨_, rfl⟩
  have G0 : Go p e below A0 (s₁.setTop (mkF m 0 #[.val (.ref a)] [])) := fun tq kq => by rw [hA0]; exact castTop (ef_rm1 m a) kq
  have G91 : Go p e below A0 (s₁.setTop (mkF m 1 #[.val (.ref a)] [(.ref a)])) := fun tq kq => G0 tq (by
    refine XS.aloadN X0.here hx rfl (hb hby d1_0) rfl rfl ?_
    show Steps p.tables e below (s₁.setTop (mkF m 1 #[.val (.ref a)] [(.ref a)])) _
    exact kq)
  obtain ⟨T92, X92, e92, st92⟩ := initO X0 hx hZ hown (hw _ (List.mem_of_getElem? (i := 6) rfl)) (hw _ (List.mem_of_getElem? (i := 7) rfl)) (hw _ (List.mem_of_getElem? (i := 8) rfl)) e0 (g := (mkF m 1 #[.val (.ref a)] [(.ref a)])) rfl (by rw [hml]; rfl) rfl (hb hby d1_1) (by decide) (W := 0) (by show 2 * 0 + _ ≤ _; exact Nat.le_of_eq rfl) (by decide)
  have G93 : Go p e below A0 (T92.setTop (mkF m 4 #[.val (.ref a)] [])) := fun tq kq => G91 tq (st92 _ kq)
  have G94 : Go p e below A0 (T92.setTop (mkF m 5 #[.val (.ref a)] [(.ref a)])) := fun tq kq => G93 tq (by
    refine XS.aloadN X92.here hx rfl (hb hby d1_4) rfl rfl ?_
    show Steps p.tables e below (T92.setTop (mkF m 5 #[.val (.ref a)] [(.ref a)])) _
    exact kq)
  obtain ⟨T95, h95, X95, e95, E95, A95, D95, -, st95⟩ := newO X92 hx hZ hown (hw _ (List.mem_of_getElem? (i := 9) rfl)) (hw _ (List.mem_of_getElem? (i := 10) rfl)) (hw _ (List.mem_of_getElem? (i := 11) rfl)) e92 (g := (mkF m 5 #[.val (.ref a)] [(.ref a)])) rfl (hb hby d1_5) (by decide) (by decide)
  obtain ⟨b95, g95⟩ : ∃ z, z = h0.size := ⟨_, rfl⟩
  rw [← g95] at A95 D95 st95
  have sz_b95 : h0.size ≤ b95 := Nat.le_trans (Nat.le_refl h0.size) (Nat.le_of_eq g95.symm)
  have g_b95 : n0 ≤ b95 := Nat.le_trans Z0 (Nat.le_of_eq g95.symm)
  have ne_a_b95 : a ≠ b95 := Nat.ne_of_lt (Nat.lt_of_lt_of_le E.lt (Nat.le_of_eq g95.symm))
  have F95_loadFactor : Fld Z h95 b95 "java/util/HashMap" "loadFactor" "F" (.float (0 : UInt32)) := D95 (Or.inr (hw _ (List.mem_of_getElem? (i := 24) rfl))) (ty := .float) (by decide)
  have G96 : Go p e below A0 (T95.setTop (mkF m 8 #[.val (.ref a)] [(.ref b95), (.ref a)])) := fun tq kq => G94 tq (st95 _ kq)
  have G97 : Go p e below A0 (T95.setTop (mkF m 9 #[.val (.ref a)] [(.ref b95), (.ref b95), (.ref a)])) := fun tq kq => G96 tq (by
    refine XS.dup X95.here hx rfl (hb hby d1_8) rfl rfl ?_
    show Steps p.tables e below (T95.setTop (mkF m 9 #[.val (.ref a)] [(.ref b95), (.ref b95), (.ref a)])) _
    exact kq)
  have f99 := (Nat.le_trans Z0 E95.1)
  obtain ⟨_, _, ⟨T98, L98, k98, n98⟩, -, X98, ⟨Lc98, hQ98, l98, y98, z98⟩, st98⟩ := X95.specialBack hx (y := (⟨"java/util/HashMap", "<init>", "()V"⟩ : MethodName)) rfl hown (mvT hZ (hw _ (List.mem_of_getElem? (i := 12) rfl))) (mvT hZ (hw _ (List.mem_of_getElem? (i := 13) rfl))) (mvT hZ (hw _ (List.mem_of_getElem? (i := 14) rfl))) (by decide) (backOf (W := 2) (rm3 l Z a0 hw [] b95   h95 n0 f99 A95 g_b95 ⟨_, F95_loadFactor⟩ ) hZ (hw _ (List.mem_of_getElem? (i := 14) rfl)) (hw _ (List.mem_of_getElem? (i := 11) rfl)) (by decide) (by decide)) (g := (mkF m 9 #[.val (.ref a)] [(.ref b95), (.ref b95), (.ref a)])) rfl (by rw [hml]; rfl) (Steps.refl _) (a := b95) (argsL := []) (rest := [(.ref b95), (.ref a)]) (lenOf pd_0 rfl) rfl (by show 2 * 0 + _ ≤ _; exact Nat.le_of_eq rfl) (hb hby d1_9) (fun _ _ => ⟨rfl, e95, (by decide : 1 + 0 ≤ _), (by decide : 8 + 0 ≤ _)⟩)
  dsimp only [Pt.U, Pt.locs, Pt.cells, Pt.slots] at X98 l98 y98 z98 st98 hQ98
  obtain rfl : k98 = 1 := y98
  obtain rfl : n98 = 8 := z98
  obtain ⟨rfl, N98q, K98, ⟨x98_0, F98_0⟩⟩ := hQ98
  have N98 : Fr n0 L98 := by rw [l98]; exact Fr.app N0 N98q
  have G100 : Go p e below A0 (T98.setTop (mkF m 12 #[.val (.ref a)] [(.ref b95), (.ref a)])) := fun tq kq => G97 tq (st98.trans kq)
  have f101 := ((E.ext E95).keep K98)
  have f102 := ((F3.ext E95).keep K98 (ninS ne_a_b95 nin0))
  obtain ⟨T103, h103, X103, e103, W103, st103⟩ := putF X98 hx hZ hown (host := "") (Or.inl (hw _ (List.mem_of_getElem? (i := 25) rfl))) Via.refl rfl f102 f101 (Or.inr ⟨(hw _ (List.mem_of_getElem? (i := 26) rfl)), rfl, hnm⟩) (hw _ (List.mem_of_getElem? (i := 1) rfl)) (ty := (.object "java/util/Map")) (by decide) rfl rfl (g := (mkF m 12 #[.val (.ref a)] [(.ref b95), (.ref a)])) rfl rfl (hb hby d1_12)
  have N103 := Fr.snoc X103 N98 ga
  have fw103 := f102.same W103
  have G104 : Go p e below A0 (T103.setTop (mkF m 15 #[.val (.ref a)] [])) := fun tq kq => G100 tq (st103 _ kq)
  have f105 := (((F1.ext E95).keep K98 (ninS ne_a_b95 nin0)).other W103 (Or.inr (slot_ne (Or.inl (hw _ (List.mem_of_getElem? (i := 33) rfl))) (Or.inr (hw _ (List.mem_of_getElem? (i := 26) rfl))) (by decide) (t := .int) (t' := (.object "java/util/Map")) (by decide) (by decide))))
  have f106 := (((F2.ext E95).keep K98 (ninS ne_a_b95 nin0)).other W103 (Or.inr (slot_ne (Or.inl (hw _ (List.mem_of_getElem? (i := 40) rfl))) (Or.inr (hw _ (List.mem_of_getElem? (i := 26) rfl))) (by decide) (t := .int) (t' := (.object "java/util/Map")) (by decide) (by decide))))
  obtain ⟨fs, hr, hrun, hended, hW, hsame⟩ := X103.leave (v := none) (fun _ => rfl)
  refine ⟨_, _, (by rw [← hA0]; exact G104 _ (X103.returnOut hx Bd.returns (hb hby d1_15) hr)), hrun, hended, _, _, rfl, ?_, ⟨_, rfl⟩, hW, hsame.mono (by decide) (by decide)⟩
  show Qh Z a none k ch h0 n0 _ T103.heap _
  rw [e103]
  exact ⟨rfl, N103, ((((Keep.refl h0 [a]).ext E95).trans K98 (allS (P := fun x => x ∈ [a] ∨ h0.size ≤ x) (Or.inr sz_b95) all0)).wr W103 (Or.inl (List.mem_of_getElem? (i := 0) rfl))), f105, f106⟩
set_option maxRecDepth 65536 in
set_option maxHeartbeats 40000000 in
theorem rm5 (l : Launch) (Z : State) (a0 : Array Value) (hw : ∀ d ∈ tables_1, d.before a0 Z = true) (ws : List Jvm.Cond) (a : Addr) (k ch : Int32) (h0 : Heap) (n0 : Nat) (Z0 : n0 ≤ h0.size) (E : Exa Z h0 a "com/example/role_delegation/roledelegation/Hierarchy") (ga : n0 ≤ a) (F1 : Fld Z h0 a "com/example/role_delegation/roledelegation/Hierarchy" "numbered" "I" (.int k)) (F2 : Fld Z h0 a "com/example/role_delegation/roledelegation/Hierarchy" "changes" "I" (.int ch)) :
    MetFree l (⟨"com/example/role_delegation/roledelegation/Hierarchy", "number", "()I"⟩ : MethodName) (head1 (Jvm.Cond.code (⟨"com/example/role_delegation/roledelegation/Hierarchy", "number", "()I"⟩ : MethodName) prog_28_method_2_code 1 (some .int) :: ws) ({ frames := 0, cells := 0, slots := 0, locals := 0 } : Room)) (fun aa UU => aa = #[(.ref a)] ∧ Z.Warmed39 UU.vm ∧ UU.heap = h0) (fun _ _ _ _ _ => True) (fun _ UU oo U' => ∃ v L, oo = .returned v ∧ Qh Z a (some (.int k)) (k + (1 : Int32)) ch h0 n0 v U'.heap L ∧ FrameEnd UU oo U' L ({ frames := 0, cells := 0, slots := 0, locals := 0 } : Room).cells ({ frames := 0, cells := 0, slots := 0, locals := 0 } : Room).slots) := by
  refine MetFree.of_bodySF (plainFor_of_name pn_10) hisR ?_
  intro p e s m args below meth c s₁ Bd hml0 hP hK
  obtain ⟨rfl, hZ, hh⟩ := hP
  have hx := Bd.exec
  have hby := Bd.bytes
  have hml : c.maxLocals = 1 := hml0
  have hown : s.vm.findClass "com/example/role_delegation/roledelegation/Hierarchy" = some m.cls := findClass_of_methodNamed Bd.named
  have hnm := (name_of_methodNamed Bd.named Bd.method).1
  have X0 : Stand p l e ({ frames := 0, cells := 0, slots := 0, locals := 0 } : Room) s m #[(.ref a)] below meth c s₁ [] 0 0 := Stand.of_body Bd
  have e0 : s₁.heap = h0 := by rw [← hh, Bd.state]; rfl
  have N0 := Fr.nil n0
  obtain ⟨A0, hA0⟩ : ∃ A, A = s₁.setTop (entryFrame m #[(.ref a)] 1) := ⟨_, rfl⟩
  have G0 : Go p e below A0 (s₁.setTop (mkF m 0 #[.val (.ref a)] [])) := fun tq kq => by rw [hA0]; exact castTop (ef_rm5 m a) kq
  have G107 : Go p e below A0 (s₁.setTop (mkF m 2 #[.val (.ref a)] [(.ref a), (.ref a)])) := fun tq kq => G0 tq (by
    refine XS.aloadN X0.here hx rfl (hb hby d5_0) rfl rfl ?_
    show Steps p.tables e below (s₁.setTop (mkF m 1 #[.val (.ref a)] [(.ref a)])) _
    refine XS.dup X0.here hx rfl (hb hby d5_1) rfl rfl ?_
    show Steps p.tables e below (s₁.setTop (mkF m 2 #[.val (.ref a)] [(.ref a), (.ref a)])) _
    exact kq)
  obtain ⟨T108, X108, e108, st108⟩ := getF X0 hx hZ hown (host := "") (Or.inl (hw _ (List.mem_of_getElem? (i := 32) rfl))) Via.refl e0 F1 (g := (mkF m 2 #[.val (.ref a)] [(.ref a), (.ref a)])) rfl rfl (hb hby d5_2)
  have G109 : Go p e below A0 (T108.setTop (mkF m 5 #[.val (.ref a)] [(.int k), (.ref a)])) := fun tq kq => G107 tq (st108 _ kq)
  have G110 : Go p e below A0 (T108.setTop (mkF m 8 #[.val (.ref a)] [(.int (k + (1 : Int32))), (.ref a), (.int k)])) := fun tq kq => G109 tq (by
    refine XS.dupX1 X108.here hx rfl (hb hby d5_5) rfl rfl rfl ?_
    show Steps p.tables e below (T108.setTop (mkF m 6 #[.val (.ref a)] [(.int k), (.ref a), (.int k)])) _
    refine XS.iconst X108.here hx rfl (hb hby d5_6) ?_
    show Steps p.tables e below (T108.setTop (mkF m 7 #[.val (.ref a)] [(.int (1 : Int32)), (.int k), (.ref a), (.int k)])) _
    refine XS.iadd X108.here hx rfl (hb hby d5_7) rfl ?_
    show Steps p.tables e below (T108.setTop (mkF m 8 #[.val (.ref a)] [(.int (k + (1 : Int32))), (.ref a), (.int k)])) _
    exact kq)
  obtain ⟨T111, h111, X111, e111, W111, st111⟩ := putF X108 hx hZ hown (host := "") (Or.inl (hw _ (List.mem_of_getElem? (i := 32) rfl))) Via.refl e108 F1 E (Or.inl (hw _ (List.mem_of_getElem? (i := 33) rfl))) (hw _ (List.mem_of_getElem? (i := 1) rfl)) (ty := .int) (by decide) rfl rfl (g := (mkF m 8 #[.val (.ref a)] [(.int (k + (1 : Int32))), (.ref a), (.int k)])) rfl rfl (hb hby d5_8)
  have N111 := Fr.snoc X111 N0 ga
  have fw111 := F1.same W111
  have G112 : Go p e below A0 (T111.setTop (mkF m 11 #[.val (.ref a)] [(.int k)])) := fun tq kq => G110 tq (st111 _ kq)
  have f113 := (F2.other W111 (Or.inr (slot_ne (Or.inl (hw _ (List.mem_of_getElem? (i := 40) rfl))) (Or.inl (hw _ (List.mem_of_getElem? (i := 33) rfl))) (by decide) (t := .int) (t' := .int) (by decide) (by decide))))
  obtain ⟨fs, hr, hrun, hended, hW, hsame⟩ := X111.leave (v := some (.int k)) (fun h => by rw [Bd.returns] at h; cases h)
  refine ⟨_, _, (by rw [← hA0]; exact G112 _ (retOut X111 hx (t := .int) Bd.returns rfl (Or.inl ⟨rfl, Or.inl rfl, _, rfl⟩) (hb hby d5_11) hr)), hrun, hended, _, _, rfl, ?_, ⟨_, rfl⟩, hW, hsame.mono (by decide) (by decide)⟩
  show Qh Z a (some (.int k)) (k + (1 : Int32)) ch h0 n0 _ T111.heap _
  rw [e111]
  exact ⟨rfl, N111, ((Keep.refl h0 [a]).wr W111 (Or.inl (List.mem_of_getElem? (i := 0) rfl))), fw111, f113⟩
set_option maxRecDepth 65536 in
set_option maxHeartbeats 40000000 in
theorem rm7 (l : Launch) (Z : State) (a0 : Array Value) (hw : ∀ d ∈ tables_1, d.before a0 Z = true) (ws : List Jvm.Cond) (a : Addr) (k ch : Int32) (h0 : Heap) (n0 : Nat) (Z0 : n0 ≤ h0.size) (E : Exa Z h0 a "com/example/role_delegation/roledelegation/Hierarchy") (ga : n0 ≤ a) (F1 : Fld Z h0 a "com/example/role_delegation/roledelegation/Hierarchy" "numbered" "I" (.int k)) (F2 : Fld Z h0 a "com/example/role_delegation/roledelegation/Hierarchy" "changes" "I" (.int ch)) :
    MetFree l (⟨"com/example/role_delegation/roledelegation/Hierarchy", "changed", "()V"⟩ : MethodName) (head1 (Jvm.Cond.code (⟨"com/example/role_delegation/roledelegation/Hierarchy", "changed", "()V"⟩ : MethodName) prog_28_method_3_code 1 none :: ws) ({ frames := 0, cells := 0, slots := 0, locals := 0 } : Room)) (fun aa UU => aa = #[(.ref a)] ∧ Z.Warmed39 UU.vm ∧ UU.heap = h0) (fun _ _ _ _ _ => True) (fun _ UU oo U' => ∃ v L, oo = .returned v ∧ Qh Z a none k (ch + (1 : Int32)) h0 n0 v U'.heap L ∧ FrameEnd UU oo U' L ({ frames := 0, cells := 0, slots := 0, locals := 0 } : Room).cells ({ frames := 0, cells := 0, slots := 0, locals := 0 } : Room).slots) := by
  refine MetFree.of_bodySF (plainFor_of_name pn_10) hisR ?_
  intro p e s m args below meth c s₁ Bd hml0 hP hK
  obtain ⟨rfl, hZ, hh⟩ := hP
  have hx := Bd.exec
  have hby := Bd.bytes
  have hml : c.maxLocals = 1 := hml0
  have hown : s.vm.findClass "com/example/role_delegation/roledelegation/Hierarchy" = some m.cls := findClass_of_methodNamed Bd.named
  have hnm := (name_of_methodNamed Bd.named Bd.method).1
  have X0 : Stand p l e ({ frames := 0, cells := 0, slots := 0, locals := 0 } : Room) s m #[(.ref a)] below meth c s₁ [] 0 0 := Stand.of_body Bd
  have e0 : s₁.heap = h0 := by rw [← hh, Bd.state]; rfl
  have N0 := Fr.nil n0
  obtain ⟨A0, hA0⟩ : ∃ A, A = s₁.setTop (entryFrame m #[(.ref a)] 1) := ⟨_, rfl⟩
  have G0 : Go p e below A0 (s₁.setTop (mkF m 0 #[.val (.ref a)] [])) := fun tq kq => by rw [hA0]; exact castTop (ef_rm7 m a) kq
  have G114 : Go p e below A0 (s₁.setTop (mkF m 2 #[.val (.ref a)] [(.ref a), (.ref a)])) := fun tq kq => G0 tq (by
    refine XS.aloadN X0.here hx rfl (hb hby d7_0) rfl rfl ?_
    show Steps p.tables e below (s₁.setTop (mkF m 1 #[.val (.ref a)] [(.ref a)])) _
    refine XS.dup X0.here hx rfl (hb hby d7_1) rfl rfl ?_
    show Steps p.tables e below (s₁.setTop (mkF m 2 #[.val (.ref a)] [(.ref a), (.ref a)])) _
    exact kq)
  obtain ⟨T115, X115, e115, st115⟩ := getF X0 hx hZ hown (host := "") (Or.inl (hw _ (List.mem_of_getElem? (i := 39) rfl))) Via.refl e0 F2 (g := (mkF m 2 #[.val (.ref a)] [(.ref a), (.ref a)])) rfl rfl (hb hby d7_2)
  have G116 : Go p e below A0 (T115.setTop (mkF m 5 #[.val (.ref a)] [(.int ch), (.ref a)])) := fun tq kq => G114 tq (st115 _ kq)
  have G117 : Go p e below A0 (T115.setTop (mkF m 7 #[.val (.ref a)] [(.int (ch + (1 : Int32))), (.ref a)])) := fun tq kq => G116 tq (by
    refine XS.iconst X115.here hx rfl (hb hby d7_5) ?_
    show Steps p.tables e below (T115.setTop (mkF m 6 #[.val (.ref a)] [(.int (1 : Int32)), (.int ch), (.ref a)])) _
    refine XS.iadd X115.here hx rfl (hb hby d7_6) rfl ?_
    show Steps p.tables e below (T115.setTop (mkF m 7 #[.val (.ref a)] [(.int (ch + (1 : Int32))), (.ref a)])) _
    exact kq)
  obtain ⟨T118, h118, X118, e118, W118, st118⟩ := putF X115 hx hZ hown (host := "") (Or.inl (hw _ (List.mem_of_getElem? (i := 39) rfl))) Via.refl e115 F2 E (Or.inl (hw _ (List.mem_of_getElem? (i := 40) rfl))) (hw _ (List.mem_of_getElem? (i := 1) rfl)) (ty := .int) (by decide) rfl rfl (g := (mkF m 7 #[.val (.ref a)] [(.int (ch + (1 : Int32))), (.ref a)])) rfl rfl (hb hby d7_7)
  have N118 := Fr.snoc X118 N0 ga
  have fw118 := F2.same W118
  have G119 : Go p e below A0 (T118.setTop (mkF m 10 #[.val (.ref a)] [])) := fun tq kq => G117 tq (st118 _ kq)
  have f120 := (F1.other W118 (Or.inr (slot_ne (Or.inl (hw _ (List.mem_of_getElem? (i := 33) rfl))) (Or.inl (hw _ (List.mem_of_getElem? (i := 40) rfl))) (by decide) (t := .int) (t' := .int) (by decide) (by decide))))
  obtain ⟨fs, hr, hrun, hended, hW, hsame⟩ := X118.leave (v := none) (fun _ => rfl)
  refine ⟨_, _, (by rw [← hA0]; exact G119 _ (X118.returnOut hx Bd.returns (hb hby d7_10) hr)), hrun, hended, _, _, rfl, ?_, ⟨_, rfl⟩, hW, hsame.mono (by decide) (by decide)⟩
  show Qh Z a none k (ch + (1 : Int32)) h0 n0 _ T118.heap _
  rw [e118]
  exact ⟨rfl, N118, ((Keep.refl h0 [a]).wr W118 (Or.inl (List.mem_of_getElem? (i := 0) rfl))), f120, fw118⟩
set_option maxRecDepth 65536 in
set_option maxHeartbeats 40000000 in
theorem rm6 (l : Launch) (Z : State) (a0 : Array Value) (hw : ∀ d ∈ tables_1, d.before a0 Z = true) (ws : List Jvm.Cond) (a : Addr) (k ch : Int32) (h0 : Heap) (n0 : Nat) (Z0 : n0 ≤ h0.size) (E : Exa Z h0 a "com/example/role_delegation/roledelegation/Hierarchy") (ga : n0 ≤ a) (F1 : Fld Z h0 a "com/example/role_delegation/roledelegation/Hierarchy" "numbered" "I" (.int k)) (F2 : Fld Z h0 a "com/example/role_delegation/roledelegation/Hierarchy" "changes" "I" (.int ch)) :
    MetFree l (⟨"com/example/role_delegation/roledelegation/Hierarchy", "changes", "()I"⟩ : MethodName) (head1 (Jvm.Cond.code (⟨"com/example/role_delegation/roledelegation/Hierarchy", "changes", "()I"⟩ : MethodName) prog_28_method_4_code 1 (some .int) :: ws) ({ frames := 0, cells := 0, slots := 0, locals := 0 } : Room)) (fun aa UU => aa = #[(.ref a)] ∧ Z.Warmed39 UU.vm ∧ UU.heap = h0) (fun _ _ _ _ _ => True) (fun _ UU oo U' => ∃ v L, oo = .returned v ∧ Qr (.int ch) h0 n0 v U'.heap L ∧ FrameEnd UU oo U' L ({ frames := 0, cells := 0, slots := 0, locals := 0 } : Room).cells ({ frames := 0, cells := 0, slots := 0, locals := 0 } : Room).slots) := by
  refine MetFree.of_bodySF (plainFor_of_name pn_10) hisR ?_
  intro p e s m args below meth c s₁ Bd hml0 hP hK
  obtain ⟨rfl, hZ, hh⟩ := hP
  have hx := Bd.exec
  have hby := Bd.bytes
  have hml : c.maxLocals = 1 := hml0
  have hown : s.vm.findClass "com/example/role_delegation/roledelegation/Hierarchy" = some m.cls := findClass_of_methodNamed Bd.named
  have hnm := (name_of_methodNamed Bd.named Bd.method).1
  have X0 : Stand p l e ({ frames := 0, cells := 0, slots := 0, locals := 0 } : Room) s m #[(.ref a)] below meth c s₁ [] 0 0 := Stand.of_body Bd
  have e0 : s₁.heap = h0 := by rw [← hh, Bd.state]; rfl
  have N0 := Fr.nil n0
  obtain ⟨A0, hA0⟩ : ∃ A, A = s₁.setTop (entryFrame m #[(.ref a)] 1) := ⟨_, rfl⟩
  have G0 : Go p e below A0 (s₁.setTop (mkF m 0 #[.val (.ref a)] [])) := fun tq kq => by rw [hA0]; exact castTop (ef_rm6 m a) kq
  have G121 : Go p e below A0 (s₁.setTop (mkF m 1 #[.val (.ref a)] [(.ref a)])) := fun tq kq => G0 tq (by
    refine XS.aloadN X0.here hx rfl (hb hby d6_0) rfl rfl ?_
    show Steps p.tables e below (s₁.setTop (mkF m 1 #[.val (.ref a)] [(.ref a)])) _
    exact kq)
  obtain ⟨T122, X122, e122, st122⟩ := getF X0 hx hZ hown (host := "") (Or.inl (hw _ (List.mem_of_getElem? (i := 39) rfl))) Via.refl e0 F2 (g := (mkF m 1 #[.val (.ref a)] [(.ref a)])) rfl rfl (hb hby d6_1)
  have G123 : Go p e below A0 (T122.setTop (mkF m 4 #[.val (.ref a)] [(.int ch)])) := fun tq kq => G121 tq (st122 _ kq)
  obtain ⟨fs, hr, hrun, hended, hW, hsame⟩ := X122.leave (v := some (.int ch)) (fun h => by rw [Bd.returns] at h; cases h)
  refine ⟨_, _, (by rw [← hA0]; exact G123 _ (retOut X122 hx (t := .int) Bd.returns rfl (Or.inl ⟨rfl, Or.inl rfl, _, rfl⟩) (hb hby d6_4) hr)), hrun, hended, _, _, rfl, ?_, ⟨_, rfl⟩, hW, hsame.mono (by decide) (by decide)⟩
  exact ⟨rfl, N0, e122⟩
def Qro (Z : State) (r a : Addr) (k ch : Int32) (h0 : Heap) (n0 : Nat) (v : Option Value) (h : Heap) (L : List Loc) : Prop := v = none ∧ Fr n0 L ∧ Keep h0 h [r, a] ∧ Fld Z h r "com/example/role_delegation/roledelegation/Role" "number" "I" (.int k) ∧ Fld Z h a "com/example/role_delegation/roledelegation/Hierarchy" "numbered" "I" (.int (k + (1 : Int32))) ∧ Fld Z h a "com/example/role_delegation/roledelegation/Hierarchy" "changes" "I" (.int ch)
set_option maxRecDepth 65536 in
set_option maxHeartbeats 40000000 in
theorem rm8 (l : Launch) (Z : State) (a0 : Array Value) (hw : ∀ d ∈ tables_1, d.before a0 Z = true) (ws : List Jvm.Cond) (r nm a da : Addr) (k ch : Int32) (h0 : Heap) (n0 : Nat) (Z0 : n0 ≤ h0.size) (E : Exa Z h0 a "com/example/role_delegation/roledelegation/Hierarchy") (ga : n0 ≤ a) (F1 : Fld Z h0 a "com/example/role_delegation/roledelegation/Hierarchy" "numbered" "I" (.int k)) (F2 : Fld Z h0 a "com/example/role_delegation/roledelegation/Hierarchy" "changes" "I" (.int ch)) (Er : Exa Z h0 r "com/example/role_delegation/roledelegation/Role") (gr : n0 ≤ r) (hra : r ≠ a) (hold : Old Z n0 h0) (hSd : Sta Z Z.heap "java/util/ArrayList" "DEFAULTCAPACITY_EMPTY_ELEMENTDATA" "[Ljava/lang/Object;" (.ref da)) (G0_ : Fld Z h0 r "com/example/role_delegation/roledelegation/Role" "juniors" "Ljava/util/List;" .null) (G1_ : Fld Z h0 r "com/example/role_delegation/roledelegation/Role" "permissions" "Ljava/util/Set;" .null) (G2_ : Fld Z h0 r "com/example/role_delegation/roledelegation/Role" "name" "Ljava/lang/String;" .null) (G3_ : Fld Z h0 r "com/example/role_delegation/roledelegation/Role" "hierarchy" "Lcom/example/role_delegation/roledelegation/Hierarchy;" .null) (G4_ : Fld Z h0 r "com/example/role_delegation/roledelegation/Role" "number" "I" (.int (0 : Int32))) :
    MetFree l (⟨"com/example/role_delegation/roledelegation/Role", "<init>", "(Ljava/lang/String;Lcom/example/role_delegation/roledelegation/Hierarchy;)V"⟩ : MethodName) (head1 (Jvm.Cond.code (⟨"com/example/role_delegation/roledelegation/Role", "<init>", "(Ljava/lang/String;Lcom/example/role_delegation/roledelegation/Hierarchy;)V"⟩ : MethodName) prog_56_method_1_code 3 none :: ws) ({ frames := 6, cells := 3, slots := 16, locals := 87 } : Room)) (fun aa UU => aa = #[(.ref r), (.ref nm), (.ref a)] ∧ Z.Warmed39 UU.vm ∧ UU.heap = h0) (fun _ _ _ _ _ => True) (fun _ UU oo U' => ∃ v L, oo = .returned v ∧ Qro Z r a k ch h0 n0 v U'.heap L ∧ FrameEnd UU oo U' L ({ frames := 6, cells := 3, slots := 16, locals := 87 } : Room).cells ({ frames := 6, cells := 3, slots := 16, locals := 87 } : Room).slots) := by
  refine MetFree.of_bodySF (plainFor_of_name pn_11) hisR ?_
  intro p e s m args below meth c s₁ Bd hml0 hP hK
  obtain ⟨rfl, hZ, hh⟩ := hP
  have hx := Bd.exec
  have hby := Bd.bytes
  have hml : c.maxLocals = 3 := hml0
  have hown : s.vm.findClass "com/example/role_delegation/roledelegation/Role" = some m.cls := findClass_of_methodNamed Bd.named
  have hnm := (name_of_methodNamed Bd.named Bd.method).1
  have X0 : Stand p l e ({ frames := 6, cells := 3, slots := 16, locals := 87 } : Room) s m #[(.ref r), (.ref nm), (.ref a)] below meth c s₁ [] 0 0 := Stand.of_body Bd
  have e0 : s₁.heap = h0 := by rw [← hh, Bd.state]; rfl
  have N0 := Fr.nil n0
  obtain ⟨A0, hA0⟩ : ∃ A, A = s₁.setTop (entryFrame m #[(.ref r), (.ref nm), (.ref a)] 3) := ⟨_, rfl⟩
  have G0 : Go p e below A0 (s₁.setTop (mkF m 0 #[.val (.ref r), .val (.ref nm), .val (.ref a)] [])) := fun tq kq => by rw [hA0]; exact castTop (ef_rm8 m r nm a) kq
  have G124 : Go p e below A0 (s₁.setTop (mkF m 1 #[.val (.ref r), .val (.ref nm), .val (.ref a)] [(.ref r)])) := fun tq kq => G0 tq (by
    refine XS.aloadN X0.here hx rfl (hb hby d8_0) rfl rfl ?_
    show Steps p.tables e below (s₁.setTop (mkF m 1 #[.val (.ref r), .val (.ref nm), .val (.ref a)] [(.ref r)])) _
    exact kq)
  obtain ⟨T125, X125, e125, st125⟩ := initO X0 hx hZ hown (hw _ (List.mem_of_getElem? (i := 60) rfl)) (hw _ (List.mem_of_getElem? (i := 7) rfl)) (hw _ (List.mem_of_getElem? (i := 8) rfl)) e0 (g := (mkF m 1 #[.val (.ref r), .val (.ref nm), .val (.ref a)] [(.ref r)])) rfl (by rw [hml]; rfl) rfl (hb hby d8_1) (by decide) (W := 0) (by show 2 * 0 + _ ≤ _; exact Nat.le_of_eq rfl) (by decide)
  have G126 : Go p e below A0 (T125.setTop (mkF m 4 #[.val (.ref r), .val (.ref nm), .val (.ref a)] [])) := fun tq kq => G124 tq (st125 _ kq)
  have G127 : Go p e below A0 (T125.setTop (mkF m 5 #[.val (.ref r), .val (.ref nm), .val (.ref a)] [(.ref r)])) := fun tq kq => G126 tq (by
    refine XS.aloadN X125.here hx rfl (hb hby d8_4) rfl rfl ?_
    show Steps p.tables e below (T125.setTop (mkF m 5 #[.val (.ref r), .val (.ref nm), .val (.ref a)] [(.ref r)])) _
    exact kq)
  obtain ⟨T128, h128, X128, e128, E128, A128, D128, -, st128⟩ := newO X125 hx hZ hown (hw _ (List.mem_of_getElem? (i := 61) rfl)) (hw _ (List.mem_of_getElem? (i := 62) rfl)) (hw _ (List.mem_of_getElem? (i := 63) rfl)) e125 (g := (mkF m 5 #[.val (.ref r), .val (.ref nm), .val (.ref a)] [(.ref r)])) rfl (hb hby d8_5) (by decide) (by decide)
  obtain ⟨b128, g128⟩ : ∃ z, z = h0.size := ⟨_, rfl⟩
  rw [← g128] at A128 D128 st128
  have sz_b128 : h0.size ≤ b128 := Nat.le_trans (Nat.le_refl h0.size) (Nat.le_of_eq g128.symm)
  have g_b128 : n0 ≤ b128 := Nat.le_trans Z0 (Nat.le_of_eq g128.symm)
  have ne_a_b128 : a ≠ b128 := Nat.ne_of_lt (Nat.lt_of_lt_of_le E.lt (Nat.le_of_eq g128.symm))
  have ne_r_b128 : r ≠ b128 := Nat.ne_of_lt (Nat.lt_of_lt_of_le Er.lt (Nat.le_of_eq g128.symm))
  have F128_modCount : Fld Z h128 b128 "java/util/AbstractList" "modCount" "I" (.int (0 : Int32)) := D128 (Or.inl (hw _ (List.mem_of_getElem? (i := 81) rfl))) (ty := .int) (by decide)
  have F128_elementData : Fld Z h128 b128 "java/util/ArrayList" "elementData" "[Ljava/lang/Object;" .null := D128 (Or.inl (hw _ (List.mem_of_getElem? (i := 84) rfl))) (ty := (.array (.object "java/lang/Object"))) (by decide)
  have G129 : Go p e below A0 (T128.setTop (mkF m 8 #[.val (.ref r), .val (.ref nm), .val (.ref a)] [(.ref b128), (.ref r)])) := fun tq kq => G127 tq (st128 _ kq)
  have G130 : Go p e below A0 (T128.setTop (mkF m 9 #[.val (.ref r), .val (.ref nm), .val (.ref a)] [(.ref b128), (.ref b128), (.ref r)])) := fun tq kq => G129 tq (by
    refine XS.dup X128.here hx rfl (hb hby d8_8) rfl rfl ?_
    show Steps p.tables e below (T128.setTop (mkF m 9 #[.val (.ref r), .val (.ref nm), .val (.ref a)] [(.ref b128), (.ref b128), (.ref r)])) _
    exact kq)
  have f132 := (Nat.le_trans Z0 E128.1)
  have f133 := (hold.ext E128)
  obtain ⟨_, _, ⟨T131, L131, k131, n131⟩, -, X131, ⟨Lc131, hQ131, l131, y131, z131⟩, st131⟩ := X128.specialBack hx (y := (⟨"java/util/ArrayList", "<init>", "()V"⟩ : MethodName)) rfl hown (mvT hZ (hw _ (List.mem_of_getElem? (i := 64) rfl))) (mvT hZ (hw _ (List.mem_of_getElem? (i := 65) rfl))) (mvT hZ (hw _ (List.mem_of_getElem? (i := 66) rfl))) (by decide) (backOf (W := 2) (rm9 l Z a0 hw [] b128  da h128 n0 f132 A128 g_b128 ⟨_, F128_modCount⟩ ⟨_, F128_elementData⟩ f133 hSd) hZ (hw _ (List.mem_of_getElem? (i := 66) rfl)) (hw _ (List.mem_of_getElem? (i := 63) rfl)) (by decide) (by decide)) (g := (mkF m 9 #[.val (.ref r), .val (.ref nm), .val (.ref a)] [(.ref b128), (.ref b128), (.ref r)])) rfl (by rw [hml]; rfl) (Steps.refl _) (a := b128) (argsL := []) (rest := [(.ref b128), (.ref r)]) (lenOf pd_0 rfl) rfl (by show 2 * 0 + _ ≤ _; exact Nat.le_of_eq rfl) (hb hby d8_9) (fun _ _ => ⟨rfl, e128, (by decide : 1 + 0 ≤ _), (by decide : 3 + 0 ≤ _)⟩)
  dsimp only [Pt.U, Pt.locs, Pt.cells, Pt.slots] at X131 l131 y131 z131 st131 hQ131
  obtain rfl : k131 = 1 := y131
  obtain rfl : n131 = 3 := z131
  obtain ⟨rfl, N131q, K131, ⟨x131_0, F131_0⟩, ⟨x131_1, F131_1⟩⟩ := hQ131
  have N131 : Fr n0 L131 := by rw [l131]; exact Fr.app N0 N131q
  have G134 : Go p e below A0 (T131.setTop (mkF m 12 #[.val (.ref r), .val (.ref nm), .val (.ref a)] [(.ref b128), (.ref r)])) := fun tq kq => G130 tq (st131.trans kq)
  have f135 := ((Er.ext E128).keep K131)
  have f136 := ((G0_.ext E128).keep K131 (ninS ne_r_b128 nin0))
  obtain ⟨T137, h137, X137, e137, W137, st137⟩ := putF X131 hx hZ hown (host := "") (Or.inl (hw _ (List.mem_of_getElem? (i := 85) rfl))) Via.refl rfl f136 f135 (Or.inr ⟨(hw _ (List.mem_of_getElem? (i := 86) rfl)), rfl, hnm⟩) (hw _ (List.mem_of_getElem? (i := 47) rfl)) (ty := (.object "java/util/List")) (by decide) rfl rfl (g := (mkF m 12 #[.val (.ref r), .val (.ref nm), .val (.ref a)] [(.ref b128), (.ref r)])) rfl rfl (hb hby d8_12)
  have N137 := Fr.snoc X137 N131 gr
  have fw137 := f136.same W137
  have G138 : Go p e below A0 (T137.setTop (mkF m 15 #[.val (.ref r), .val (.ref nm), .val (.ref a)] [])) := fun tq kq => G134 tq (st137 _ kq)
  have G139 : Go p e below A0 (T137.setTop (mkF m 16 #[.val (.ref r), .val (.ref nm), .val (.ref a)] [(.ref r)])) := fun tq kq => G138 tq (by
    refine XS.aloadN X137.here hx rfl (hb hby d8_15) rfl rfl ?_
    show Steps p.tables e below (T137.setTop (mkF m 16 #[.val (.ref r), .val (.ref nm), .val (.ref a)] [(.ref r)])) _
    exact kq)
  have f141 := (Nat.le_trans (Nat.le_trans f132 K131.1) (Keep.of_wr W137).1)
  obtain ⟨T140, h140, X140, e140, E140, A140, D140, -, st140⟩ := newO X137 hx hZ hown (hw _ (List.mem_of_getElem? (i := 87) rfl)) (hw _ (List.mem_of_getElem? (i := 88) rfl)) (hw _ (List.mem_of_getElem? (i := 89) rfl)) e137 (g := (mkF m 16 #[.val (.ref r), .val (.ref nm), .val (.ref a)] [(.ref r)])) rfl (hb hby d8_16) (by decide) (by decide)
  obtain ⟨b140, g140⟩ : ∃ z, z = h137.size := ⟨_, rfl⟩
  rw [← g140] at A140 D140 st140
  have f142 := (Nat.le_trans (Nat.le_trans (Nat.le_trans (Nat.le_refl h0.size) E128.1) K131.1) (Keep.of_wr W137).1)
  have sz_b140 : h0.size ≤ b140 := Nat.le_trans f142 (Nat.le_of_eq g140.symm)
  have g_b140 : n0 ≤ b140 := Nat.le_trans f141 (Nat.le_of_eq g140.symm)
  have ne_a_b140 : a ≠ b140 := Nat.ne_of_lt (Nat.lt_of_lt_of_le (((E.ext E128).keep K131).wr W137).lt (Nat.le_of_eq g140.symm))
  have ne_r_b140 : r ≠ b140 := Nat.ne_of_lt (Nat.lt_of_lt_of_le (f135.wr W137).lt (Nat.le_of_eq g140.symm))
  have ne_b128_b140 : b128 ≠ b140 := Nat.ne_of_lt (Nat.lt_of_lt_of_le ((A128.keep K131).wr W137).lt (Nat.le_of_eq g140.symm))
  have F140_map : Fld Z h140 b140 "java/util/HashSet" "map" "Ljava/util/HashMap;" .null := D140 (Or.inl (hw _ (List.mem_of_getElem? (i := 142) rfl))) (ty := (.object "java/util/HashMap")) (by decide)
  have G143 : Go p e below A0 (T140.setTop (mkF m 19 #[.val (.ref r), .val (.ref nm), .val (.ref a)] [(.ref b140), (.ref r)])) := fun tq kq => G139 tq (st140 _ kq)
  have G144 : Go p e below A0 (T140.setTop (mkF m 20 #[.val (.ref r), .val (.ref nm), .val (.ref a)] [(.ref b140), (.ref b140), (.ref r)])) := fun tq kq => G143 tq (by
    refine XS.dup X140.here hx rfl (hb hby d8_19) rfl rfl ?_
    show Steps p.tables e below (T140.setTop (mkF m 20 #[.val (.ref r), .val (.ref nm), .val (.ref a)] [(.ref b140), (.ref b140), (.ref r)])) _
    exact kq)
  have f146 := (Nat.le_trans f141 E140.1)
  obtain ⟨_, _, ⟨T145, L145, k145, n145⟩, -, X145, ⟨Lc145, hQ145, l145, y145, z145⟩, st145⟩ := X140.specialBack hx (y := (⟨"java/util/LinkedHashSet", "<init>", "()V"⟩ : MethodName)) rfl hown (mvT hZ (hw _ (List.mem_of_getElem? (i := 90) rfl))) (mvT hZ (hw _ (List.mem_of_getElem? (i := 91) rfl))) (mvT hZ (hw _ (List.mem_of_getElem? (i := 92) rfl))) (by decide) (backOf (W := 2) (rm12 l Z a0 hw [] b140   h140 n0 f146 A140 g_b140 ⟨_, F140_map⟩ ) hZ (hw _ (List.mem_of_getElem? (i := 92) rfl)) (hw _ (List.mem_of_getElem? (i := 89) rfl)) (by decide) (by decide)) (g := (mkF m 20 #[.val (.ref r), .val (.ref nm), .val (.ref a)] [(.ref b140), (.ref b140), (.ref r)])) rfl (by rw [hml]; rfl) (Steps.refl _) (a := b140) (argsL := []) (rest := [(.ref b140), (.ref r)]) (lenOf pd_0 rfl) rfl (by show 2 * 0 + _ ≤ _; exact Nat.le_of_eq rfl) (hb hby d8_20) (fun _ _ => ⟨rfl, e140, (by decide : 2 + 1 ≤ _), (by decide : 4 + 12 ≤ _)⟩)
  dsimp only [Pt.U, Pt.locs, Pt.cells, Pt.slots] at X145 l145 y145 z145 st145 hQ145
  obtain rfl : k145 = 3 := y145
  obtain rfl : n145 = 16 := z145
  obtain ⟨rfl, N145q, K145, ⟨x145_0, F145_0⟩⟩ := hQ145
  have N145 : Fr n0 L145 := by rw [l145]; exact Fr.app N137 N145q
  have G147 : Go p e below A0 (T145.setTop (mkF m 23 #[.val (.ref r), .val (.ref nm), .val (.ref a)] [(.ref b140), (.ref r)])) := fun tq kq => G144 tq (st145.trans kq)
  have f148 := (((f135.wr W137).ext E140).keep K145)
  have f149 := (((((G1_.ext E128).keep K131 (ninS ne_r_b128 nin0)).other W137 (Or.inr (slot_ne (Or.inr (hw _ (List.mem_of_getElem? (i := 144) rfl))) (Or.inr (hw _ (List.mem_of_getElem? (i := 86) rfl))) (by decide) (t := (.object "java/util/Set")) (t' := (.object "java/util/List")) (by decide) (by decide)))).ext E140).keep K145 (ninS ne_r_b140 nin0))
  obtain ⟨T150, h150, X150, e150, W150, st150⟩ := putF X145 hx hZ hown (host := "") (Or.inl (hw _ (List.mem_of_getElem? (i := 143) rfl))) Via.refl rfl f149 f148 (Or.inr ⟨(hw _ (List.mem_of_getElem? (i := 144) rfl)), rfl, hnm⟩) (hw _ (List.mem_of_getElem? (i := 47) rfl)) (ty := (.object "java/util/Set")) (by decide) rfl rfl (g := (mkF m 23 #[.val (.ref r), .val (.ref nm), .val (.ref a)] [(.ref b140), (.ref r)])) rfl rfl (hb hby d8_23)
  have N150 := Fr.snoc X150 N145 gr
  have fw150 := f149.same W150
  have G151 : Go p e below A0 (T150.setTop (mkF m 26 #[.val (.ref r), .val (.ref nm), .val (.ref a)] [])) := fun tq kq => G147 tq (st150 _ kq)
  have G152 : Go p e below A0 (T150.setTop (mkF m 28 #[.val (.ref r), .val (.ref nm), .val (.ref a)] [(.ref nm), (.ref r)])) := fun tq kq => G151 tq (by
    refine XS.aloadN X150.here hx rfl (hb hby d8_26) rfl rfl ?_
    show Steps p.tables e below (T150.setTop (mkF m 27 #[.val (.ref r), .val (.ref nm), .val (.ref a)] [(.ref r)])) _
    refine XS.aloadN X150.here hx rfl (hb hby d8_27) rfl rfl ?_
    show Steps p.tables e below (T150.setTop (mkF m 28 #[.val (.ref r), .val (.ref nm), .val (.ref a)] [(.ref nm), (.ref r)])) _
    exact kq)
  have f153 := (f148.wr W150)
  have f154 := ((((((G2_.ext E128).keep K131 (ninS ne_r_b128 nin0)).other W137 (Or.inr (slot_ne (Or.inr (hw _ (List.mem_of_getElem? (i := 146) rfl))) (Or.inr (hw _ (List.mem_of_getElem? (i := 86) rfl))) (by decide) (t := (.object "java/lang/String")) (t' := (.object "java/util/List")) (by decide) (by decide)))).ext E140).keep K145 (ninS ne_r_b140 nin0)).other W150 (Or.inr (slot_ne (Or.inr (hw _ (List.mem_of_getElem? (i := 146) rfl))) (Or.inr (hw _ (List.mem_of_getElem? (i := 144) rfl))) (by decide) (t := (.object "java/lang/String")) (t' := (.object "java/util/Set")) (by decide) (by decide))))
  obtain ⟨T155, h155, X155, e155, W155, st155⟩ := putF X150 hx hZ hown (host := "") (Or.inl (hw _ (List.mem_of_getElem? (i := 145) rfl))) Via.refl e150 f154 f153 (Or.inr ⟨(hw _ (List.mem_of_getElem? (i := 146) rfl)), rfl, hnm⟩) (hw _ (List.mem_of_getElem? (i := 47) rfl)) (ty := (.object "java/lang/String")) (by decide) rfl rfl (g := (mkF m 28 #[.val (.ref r), .val (.ref nm), .val (.ref a)] [(.ref nm), (.ref r)])) rfl rfl (hb hby d8_28)
  have N155 := Fr.snoc X155 N150 gr
  have fw155 := f154.same W155
  have G156 : Go p e below A0 (T155.setTop (mkF m 31 #[.val (.ref r), .val (.ref nm), .val (.ref a)] [])) := fun tq kq => G152 tq (st155 _ kq)
  have G157 : Go p e below A0 (T155.setTop (mkF m 33 #[.val (.ref r), .val (.ref nm), .val (.ref a)] [(.ref a), (.ref r)])) := fun tq kq => G156 tq (by
    refine XS.aloadN X155.here hx rfl (hb hby d8_31) rfl rfl ?_
    show Steps p.tables e below (T155.setTop (mkF m 32 #[.val (.ref r), .val (.ref nm), .val (.ref a)] [(.ref r)])) _
    refine XS.aloadN X155.here hx rfl (hb hby d8_32) rfl rfl ?_
    show Steps p.tables e below (T155.setTop (mkF m 33 #[.val (.ref r), .val (.ref nm), .val (.ref a)] [(.ref a), (.ref r)])) _
    exact kq)
  have f158 := (f153.wr W155)
  have f159 := (((((((G3_.ext E128).keep K131 (ninS ne_r_b128 nin0)).other W137 (Or.inr (slot_ne (Or.inr (hw _ (List.mem_of_getElem? (i := 148) rfl))) (Or.inr (hw _ (List.mem_of_getElem? (i := 86) rfl))) (by decide) (t := (.object "com/example/role_delegation/roledelegation/Hierarchy")) (t' := (.object "java/util/List")) (by decide) (by decide)))).ext E140).keep K145 (ninS ne_r_b140 nin0)).other W150 (Or.inr (slot_ne (Or.inr (hw _ (List.mem_of_getElem? (i := 148) rfl))) (Or.inr (hw _ (List.mem_of_getElem? (i := 144) rfl))) (by decide) (t := (.object "com/example/role_delegation/roledelegation/Hierarchy")) (t' := (.object "java/util/Set")) (by decide) (by decide)))).other W155 (Or.inr (slot_ne (Or.inr (hw _ (List.mem_of_getElem? (i := 148) rfl))) (Or.inr (hw _ (List.mem_of_getElem? (i := 146) rfl))) (by decide) (t := (.object "com/example/role_delegation/roledelegation/Hierarchy")) (t' := (.object "java/lang/String")) (by decide) (by decide))))
  obtain ⟨T160, h160, X160, e160, W160, st160⟩ := putF X155 hx hZ hown (host := "") (Or.inl (hw _ (List.mem_of_getElem? (i := 147) rfl))) Via.refl e155 f159 f158 (Or.inr ⟨(hw _ (List.mem_of_getElem? (i := 148) rfl)), rfl, hnm⟩) (hw _ (List.mem_of_getElem? (i := 47) rfl)) (ty := (.object "com/example/role_delegation/roledelegation/Hierarchy")) (by decide) rfl rfl (g := (mkF m 33 #[.val (.ref r), .val (.ref nm), .val (.ref a)] [(.ref a), (.ref r)])) rfl rfl (hb hby d8_33)
  have N160 := Fr.snoc X160 N155 gr
  have fw160 := f159.same W160
  have G161 : Go p e below A0 (T160.setTop (mkF m 36 #[.val (.ref r), .val (.ref nm), .val (.ref a)] [])) := fun tq kq => G157 tq (st160 _ kq)
  have G162 : Go p e below A0 (T160.setTop (mkF m 38 #[.val (.ref r), .val (.ref nm), .val (.ref a)] [(.ref a), (.ref r)])) := fun tq kq => G161 tq (by
    refine XS.aloadN X160.here hx rfl (hb hby d8_36) rfl rfl ?_
    show Steps p.tables e below (T160.setTop (mkF m 37 #[.val (.ref r), .val (.ref nm), .val (.ref a)] [(.ref r)])) _
    refine XS.aloadN X160.here hx rfl (hb hby d8_37) rfl rfl ?_
    show Steps p.tables e below (T160.setTop (mkF m 38 #[.val (.ref r), .val (.ref nm), .val (.ref a)] [(.ref a), (.ref r)])) _
    exact kq)
  have f164 := (Nat.le_trans (Nat.le_trans (Nat.le_trans (Nat.le_trans f146 K145.1) (Keep.of_wr W150).1) (Keep.of_wr W155).1) (Keep.of_wr W160).1)
  have f165 := ((((((((E.ext E128).keep K131).wr W137).ext E140).keep K145).wr W150).wr W155).wr W160)
  have f166 := ((((((((F1.ext E128).keep K131 (ninS ne_a_b128 nin0)).other W137 (Or.inl (Ne.symm hra))).ext E140).keep K145 (ninS ne_a_b140 nin0)).other W150 (Or.inl (Ne.symm hra))).other W155 (Or.inl (Ne.symm hra))).other W160 (Or.inl (Ne.symm hra)))
  have f167 := ((((((((F2.ext E128).keep K131 (ninS ne_a_b128 nin0)).other W137 (Or.inl (Ne.symm hra))).ext E140).keep K145 (ninS ne_a_b140 nin0)).other W150 (Or.inl (Ne.symm hra))).other W155 (Or.inl (Ne.symm hra))).other W160 (Or.inl (Ne.symm hra)))
  obtain ⟨cq163, kq163, q163a, q163b, q163c⟩ := isOf hZ e160 f165
  obtain ⟨_, _, ⟨T163, L163, k163, n163⟩, -, X163, ⟨Lc163, hQ163, l163, y163, z163⟩, st163⟩ := X160.virtualBack hx (y := (⟨"com/example/role_delegation/roledelegation/Hierarchy", "number", "()I"⟩ : MethodName)) (z := (⟨"com/example/role_delegation/roledelegation/Hierarchy", "number", "()I"⟩ : MethodName)) hown (mvT hZ (hw _ (List.mem_of_getElem? (i := 149) rfl))) (mvT hZ (hw _ (List.mem_of_getElem? (i := 28) rfl))) (notFace_of_selects (args := #[]) (mvT hZ (hw _ (List.mem_of_getElem? (i := 30) rfl)))) (mvT hZ (hw _ (List.mem_of_getElem? (i := 30) rfl))) (mvT hZ (hw _ (List.mem_of_getElem? (i := 29) rfl))) (by decide) (backOf (W := 1) (rm5 l Z a0 hw [] a k ch h160 n0 f164 f165 ga f166 f167 ) hZ (hw _ (List.mem_of_getElem? (i := 31) rfl)) (hw _ (List.mem_of_getElem? (i := 2) rfl)) (by decide) (by decide)) q163a q163c (g := (mkF m 38 #[.val (.ref r), .val (.ref nm), .val (.ref a)] [(.ref a), (.ref r)])) rfl (by rw [hml]; rfl) (Steps.refl _) (argsL := []) (rest := [(.ref r)]) (lenOf pd_5 rfl) rfl (by show 2 * 0 + _ ≤ _; exact Nat.le_of_eq rfl) (hb hby d8_38) (fun _ _ => ⟨rfl, e160, (by decide : 3 + 0 ≤ _), (by decide : 16 + 0 ≤ _)⟩)
  dsimp only [Pt.U, Pt.locs, Pt.cells, Pt.slots] at X163 l163 y163 z163 st163 hQ163
  obtain rfl : k163 = 3 := y163
  obtain rfl : n163 = 16 := z163
  obtain ⟨rfl, N163q, K163, Fn163, Fc163⟩ := hQ163
  have N163 : Fr n0 L163 := by rw [l163]; exact Fr.app N160 N163q
  have Fn163x : Fld Z T163.heap a "com/example/role_delegation/roledelegation/Hierarchy" "numbered" "I" (.int (k + (1 : Int32))) := Fn163
  have Fc163x : Fld Z T163.heap a "com/example/role_delegation/roledelegation/Hierarchy" "changes" "I" (.int ch) := Fc163
  have G168 : Go p e below A0 (T163.setTop (mkF m 41 #[.val (.ref r), .val (.ref nm), .val (.ref a)] [(.int k), (.ref r)])) := fun tq kq => G162 tq (st163.trans kq)
  have f169 := ((f158.wr W160).keep K163)
  have f170 := (((((((((G4_.ext E128).keep K131 (ninS ne_r_b128 nin0)).other W137 (Or.inr (slot_ne (Or.inr (hw _ (List.mem_of_getElem? (i := 151) rfl))) (Or.inr (hw _ (List.mem_of_getElem? (i := 86) rfl))) (by decide) (t := .int) (t' := (.object "java/util/List")) (by decide) (by decide)))).ext E140).keep K145 (ninS ne_r_b140 nin0)).other W150 (Or.inr (slot_ne (Or.inr (hw _ (List.mem_of_getElem? (i := 151) rfl))) (Or.inr (hw _ (List.mem_of_getElem? (i := 144) rfl))) (by decide) (t := .int) (t' := (.object "java/util/Set")) (by decide) (by decide)))).other W155 (Or.inr (slot_ne (Or.inr (hw _ (List.mem_of_getElem? (i := 151) rfl))) (Or.inr (hw _ (List.mem_of_getElem? (i := 146) rfl))) (by decide) (t := .int) (t' := (.object "java/lang/String")) (by decide) (by decide)))).other W160 (Or.inr (slot_ne (Or.inr (hw _ (List.mem_of_getElem? (i := 151) rfl))) (Or.inr (hw _ (List.mem_of_getElem? (i := 148) rfl))) (by decide) (t := .int) (t' := (.object "com/example/role_delegation/roledelegation/Hierarchy")) (by decide) (by decide)))).keep K163 (ninS hra nin0))
  obtain ⟨T171, h171, X171, e171, W171, st171⟩ := putF X163 hx hZ hown (host := "") (Or.inl (hw _ (List.mem_of_getElem? (i := 150) rfl))) Via.refl rfl f170 f169 (Or.inr ⟨(hw _ (List.mem_of_getElem? (i := 151) rfl)), rfl, hnm⟩) (hw _ (List.mem_of_getElem? (i := 47) rfl)) (ty := .int) (by decide) rfl rfl (g := (mkF m 41 #[.val (.ref r), .val (.ref nm), .val (.ref a)] [(.int k), (.ref r)])) rfl rfl (hb hby d8_41)
  have N171 := Fr.snoc X171 N163 gr
  have fw171 := f170.same W171
  have G172 : Go p e below A0 (T171.setTop (mkF m 44 #[.val (.ref r), .val (.ref nm), .val (.ref a)] [])) := fun tq kq => G168 tq (st171 _ kq)
  have f173 := (Fn163x.other W171 (Or.inl (Ne.symm hra)))
  have f174 := (Fc163x.other W171 (Or.inl (Ne.symm hra)))
  obtain ⟨fs, hr, hrun, hended, hW, hsame⟩ := X171.leave (v := none) (fun _ => rfl)
  refine ⟨_, _, (by rw [← hA0]; exact G172 _ (X171.returnOut hx Bd.returns (hb hby d8_44) hr)), hrun, hended, _, _, rfl, ?_, ⟨_, rfl⟩, hW, hsame.mono (by decide) (by decide)⟩
  show Qro Z r a k ch h0 n0 _ T171.heap _
  rw [e171]
  exact ⟨rfl, N171, (((((((((((Keep.refl h0 [r, a]).ext E128).trans K131 (allS (P := fun x => x ∈ [r, a] ∨ h0.size ≤ x) (Or.inr sz_b128) all0)).wr W137 (Or.inl (List.mem_of_getElem? (i := 0) rfl))).ext E140).trans K145 (allS (P := fun x => x ∈ [r, a] ∨ h0.size ≤ x) (Or.inr sz_b140) all0)).wr W150 (Or.inl (List.mem_of_getElem? (i := 0) rfl))).wr W155 (Or.inl (List.mem_of_getElem? (i := 0) rfl))).wr W160 (Or.inl (List.mem_of_getElem? (i := 0) rfl))).trans K163 (allS (P := fun x => x ∈ [r, a] ∨ h0.size ≤ x) (Or.inl (List.mem_of_getElem? (i := 1) rfl)) all0)).wr W171 (Or.inl (List.mem_of_getElem? (i := 0) rfl))), fw171, f173, f174⟩
set_option maxRecDepth 65536 in
set_option maxHeartbeats 40000000 in
theorem rm20 (l : Launch) (Z : State) (a0 : Array Value) (hw : ∀ d ∈ tables_1, d.before a0 Z = true) (ws : List Jvm.Cond) (r : Addr) (k : Int32) (h0 : Heap) (n0 : Nat) (Z0 : n0 ≤ h0.size) (F : Fld Z h0 r "com/example/role_delegation/roledelegation/Role" "number" "I" (.int k)) :
    MetFree l (⟨"com/example/role_delegation/roledelegation/Role", "number", "()I"⟩ : MethodName) (head1 (Jvm.Cond.code (⟨"com/example/role_delegation/roledelegation/Role", "number", "()I"⟩ : MethodName) prog_56_method_2_code 1 (some .int) :: ws) ({ frames := 0, cells := 0, slots := 0, locals := 0 } : Room)) (fun aa UU => aa = #[(.ref r)] ∧ Z.Warmed39 UU.vm ∧ UU.heap = h0) (fun _ _ _ _ _ => True) (fun _ UU oo U' => ∃ v L, oo = .returned v ∧ Qr (.int k) h0 n0 v U'.heap L ∧ FrameEnd UU oo U' L ({ frames := 0, cells := 0, slots := 0, locals := 0 } : Room).cells ({ frames := 0, cells := 0, slots := 0, locals := 0 } : Room).slots) := by
  refine MetFree.of_bodySF (plainFor_of_name pn_11) hisR ?_
  intro p e s m args below meth c s₁ Bd hml0 hP hK
  obtain ⟨rfl, hZ, hh⟩ := hP
  have hx := Bd.exec
  have hby := Bd.bytes
  have hml : c.maxLocals = 1 := hml0
  have hown : s.vm.findClass "com/example/role_delegation/roledelegation/Role" = some m.cls := findClass_of_methodNamed Bd.named
  have hnm := (name_of_methodNamed Bd.named Bd.method).1
  have X0 : Stand p l e ({ frames := 0, cells := 0, slots := 0, locals := 0 } : Room) s m #[(.ref r)] below meth c s₁ [] 0 0 := Stand.of_body Bd
  have e0 : s₁.heap = h0 := by rw [← hh, Bd.state]; rfl
  have N0 := Fr.nil n0
  obtain ⟨A0, hA0⟩ : ∃ A, A = s₁.setTop (entryFrame m #[(.ref r)] 1) := ⟨_, rfl⟩
  have G0 : Go p e below A0 (s₁.setTop (mkF m 0 #[.val (.ref r)] [])) := fun tq kq => by rw [hA0]; exact castTop (ef_rm20 m r) kq
  have G175 : Go p e below A0 (s₁.setTop (mkF m 1 #[.val (.ref r)] [(.ref r)])) := fun tq kq => G0 tq (by
    refine XS.aloadN X0.here hx rfl (hb hby d20_0) rfl rfl ?_
    show Steps p.tables e below (s₁.setTop (mkF m 1 #[.val (.ref r)] [(.ref r)])) _
    exact kq)
  obtain ⟨T176, X176, e176, st176⟩ := getF X0 hx hZ hown (host := "") (Or.inl (hw _ (List.mem_of_getElem? (i := 150) rfl))) Via.refl e0 F (g := (mkF m 1 #[.val (.ref r)] [(.ref r)])) rfl rfl (hb hby d20_1)
  have G177 : Go p e below A0 (T176.setTop (mkF m 4 #[.val (.ref r)] [(.int k)])) := fun tq kq => G175 tq (st176 _ kq)
  obtain ⟨fs, hr, hrun, hended, hW, hsame⟩ := X176.leave (v := some (.int k)) (fun h => by rw [Bd.returns] at h; cases h)
  refine ⟨_, _, (by rw [← hA0]; exact G177 _ (retOut X176 hx (t := .int) Bd.returns rfl (Or.inl ⟨rfl, Or.inl rfl, _, rfl⟩) (hb hby d20_4) hr)), hrun, hended, _, _, rfl, ?_, ⟨_, rfl⟩, hW, hsame.mono (by decide) (by decide)⟩
  exact ⟨rfl, N0, e176⟩
def Q0c (n0 : Nat) (v : Option Value) (L : List Loc) : Prop := v = some (.int 1) ∧ Fr n0 L
set_option maxRecDepth 65536 in
set_option maxHeartbeats 40000000 in
theorem rm0 (l : Launch) (Z : State) (a0 : Array Value) (hw : ∀ d ∈ tables_1, d.before a0 Z = true) (ws : List Jvm.Cond) (p0 : Int32) (da : Addr) (h0 : Heap) (n0 : Nat) (Z0 : n0 ≤ h0.size) (hold : Old Z n0 h0) (hSd : Sta Z Z.heap "java/util/ArrayList" "DEFAULTCAPACITY_EMPTY_ELEMENTDATA" "[Ljava/lang/Object;" (.ref da)) :
    MetFree l x (head1 (Jvm.Cond.code x code maxLocals ret :: ws) room_1) (fun aa UU => aa = #[(.int p0)] ∧ Z.Warmed39 UU.vm ∧ UU.heap = h0) (fun _ _ _ _ _ => True) (fun _ UU oo U' => ∃ v L, oo = .returned v ∧ Q0c n0 v L ∧ ReturnedEndW UU oo U' L room_1.cells room_1.slots) := by
  refine MetFree.of_bodySF (plainFor_of_name pn_12) hisR ?_
  intro p e s m args below meth c s₁ Bd hml0 hP hK
  obtain ⟨rfl, hZ, hh⟩ := hP
  have hx := Bd.exec
  have hby := Bd.bytes
  have hml : c.maxLocals = 9 := hml0
  have hown : s.vm.findClass "com/example/role_delegation/roledelegation/HierarchyNumberPinLaw" = some m.cls := findClass_of_methodNamed Bd.named
  have hnm := (name_of_methodNamed Bd.named Bd.method).1
  have X0 : Stand p l e room_1 s m #[(.int p0)] below meth c s₁ [] 0 0 := Stand.of_body Bd
  have e0 : s₁.heap = h0 := by rw [← hh, Bd.state]; rfl
  have N0 := Fr.nil n0
  obtain ⟨A0, hA0⟩ : ∃ A, A = s₁.setTop (entryFrame m #[(.int p0)] maxLocals) := ⟨_, rfl⟩
  have G0 : Go p e below A0 (s₁.setTop (mkF m 0 #[.val (.int p0), .unset, .unset, .unset, .unset, .unset, .unset, .unset, .unset] [])) := fun tq kq => by rw [hA0]; exact castTop (ef_rm0 m p0) kq
  have hS : s.Since s.vm 0 := (State.WarmedH.refl s).since 0
  have hstr : ∀ d ∈ Bundle.stringAtoms, d.before a0 Z = true := fun d hd => hw d ((by decide +kernel : ∀ d ∈ Bundle.stringAtoms, d ∈ tables_1) d hd)
  obtain ⟨T178, h178, X178, e178, E178, A178, D178, -, st178⟩ := newO X0 hx hZ hown (hw _ (List.mem_of_getElem? (i := 0) rfl)) (hw _ (List.mem_of_getElem? (i := 1) rfl)) (hw _ (List.mem_of_getElem? (i := 2) rfl)) e0 (g := (mkF m 0 #[.val (.int p0), .unset, .unset, .unset, .unset, .unset, .unset, .unset, .unset] [])) rfl (hb hby at_0) (by decide) (by decide)
  obtain ⟨b178, g178⟩ : ∃ z, z = h0.size := ⟨_, rfl⟩
  rw [← g178] at A178 D178 st178
  have sz_b178 : h0.size ≤ b178 := Nat.le_trans (Nat.le_refl h0.size) (Nat.le_of_eq g178.symm)
  have g_b178 : n0 ≤ b178 := Nat.le_trans Z0 (Nat.le_of_eq g178.symm)
  have F178_grantedTo : Fld Z h178 b178 "com/example/role_delegation/roledelegation/Hierarchy" "grantedTo" "Ljava/util/Map;" .null := D178 (Or.inr (hw _ (List.mem_of_getElem? (i := 26) rfl))) (ty := (.object "java/util/Map")) (by decide)
  have F178_numbered : Fld Z h178 b178 "com/example/role_delegation/roledelegation/Hierarchy" "numbered" "I" (.int (0 : Int32)) := D178 (Or.inl (hw _ (List.mem_of_getElem? (i := 33) rfl))) (ty := .int) (by decide)
  have F178_changes : Fld Z h178 b178 "com/example/role_delegation/roledelegation/Hierarchy" "changes" "I" (.int (0 : Int32)) := D178 (Or.inl (hw _ (List.mem_of_getElem? (i := 40) rfl))) (ty := .int) (by decide)
  have G179 : Go p e below A0 (T178.setTop (mkF m 3 #[.val (.int p0), .unset, .unset, .unset, .unset, .unset, .unset, .unset, .unset] [(.ref b178)])) := fun tq kq => G0 tq (st178 _ kq)
  have G180 : Go p e below A0 (T178.setTop (mkF m 4 #[.val (.int p0), .unset, .unset, .unset, .unset, .unset, .unset, .unset, .unset] [(.ref b178), (.ref b178)])) := fun tq kq => G179 tq (by
    refine XS.dup X178.here hx rfl (hb hby at_3) rfl rfl ?_
    show Steps p.tables e below (T178.setTop (mkF m 4 #[.val (.int p0), .unset, .unset, .unset, .unset, .unset, .unset, .unset, .unset] [(.ref b178), (.ref b178)])) _
    exact kq)
  have f182 := (Nat.le_trans Z0 E178.1)
  obtain ⟨_, _, ⟨T181, L181, k181, n181⟩, -, X181, ⟨Lc181, hQ181, l181, y181, z181⟩, st181⟩ := X178.specialBack hx (y := (⟨"com/example/role_delegation/roledelegation/Hierarchy", "<init>", "()V"⟩ : MethodName)) rfl hown (mvT hZ (hw _ (List.mem_of_getElem? (i := 3) rfl))) (mvT hZ (hw _ (List.mem_of_getElem? (i := 4) rfl))) (mvT hZ (hw _ (List.mem_of_getElem? (i := 5) rfl))) (by decide) (backOf (W := 1) (rm1 l Z a0 hw [] b178 (0 : Int32) (0 : Int32) h178 n0 f182 A178 g_b178 F178_numbered F178_changes F178_grantedTo) hZ (hw _ (List.mem_of_getElem? (i := 5) rfl)) (hw _ (List.mem_of_getElem? (i := 2) rfl)) (by decide) (by decide)) (g := (mkF m 4 #[.val (.int p0), .unset, .unset, .unset, .unset, .unset, .unset, .unset, .unset] [(.ref b178), (.ref b178)])) rfl (by rw [hml]; rfl) (Steps.refl _) (a := b178) (argsL := []) (rest := [(.ref b178)]) (lenOf pd_0 rfl) rfl (by show 2 * 0 + _ ≤ _; exact Nat.le_of_eq rfl) (hb hby at_4) (fun _ _ => ⟨rfl, e178, (by decide : 1 + 1 ≤ _), (by decide : 3 + 8 ≤ _)⟩)
  dsimp only [Pt.U, Pt.locs, Pt.cells, Pt.slots] at X181 l181 y181 z181 st181 hQ181
  obtain rfl : k181 = 2 := y181
  obtain rfl : n181 = 11 := z181
  obtain ⟨rfl, N181q, K181, Fn181, Fc181⟩ := hQ181
  have N181 : Fr n0 L181 := by rw [l181]; exact Fr.app N0 N181q
  have Fn181x : Fld Z T181.heap b178 "com/example/role_delegation/roledelegation/Hierarchy" "numbered" "I" (.int (0 : Int32)) := Fn181
  have Fc181x : Fld Z T181.heap b178 "com/example/role_delegation/roledelegation/Hierarchy" "changes" "I" (.int (0 : Int32)) := Fc181
  have G183 : Go p e below A0 (T181.setTop (mkF m 7 #[.val (.int p0), .unset, .unset, .unset, .unset, .unset, .unset, .unset, .unset] [(.ref b178)])) := fun tq kq => G180 tq (st181.trans kq)
  have G184 : Go p e below A0 (T181.setTop (mkF m 13 #[.val (.int p0), .val (.ref b178), .val (.int (0 : Int32)), .unset, .unset, .unset, .unset, .unset, .unset] [(.int (p0 &&& (1 : Int32)))])) := fun tq kq => G183 tq (by
    refine XS.astoreN X181.here hx rfl (hb hby at_7) rfl rfl (l' := #[.val (.int p0), .val (.ref b178), .unset, .unset, .unset, .unset, .unset, .unset, .unset]) rfl ?_
    show Steps p.tables e below (T181.setTop (mkF m 8 #[.val (.int p0), .val (.ref b178), .unset, .unset, .unset, .unset, .unset, .unset, .unset] [])) _
    refine XS.iconst X181.here hx rfl (hb hby at_8) ?_
    show Steps p.tables e below (T181.setTop (mkF m 9 #[.val (.int p0), .val (.ref b178), .unset, .unset, .unset, .unset, .unset, .unset, .unset] [(.int (0 : Int32))])) _
    refine XS.istoreN X181.here hx rfl (hb hby at_9) rfl (l' := #[.val (.int p0), .val (.ref b178), .val (.int (0 : Int32)), .unset, .unset, .unset, .unset, .unset, .unset]) rfl ?_
    show Steps p.tables e below (T181.setTop (mkF m 10 #[.val (.int p0), .val (.ref b178), .val (.int (0 : Int32)), .unset, .unset, .unset, .unset, .unset, .unset] [])) _
    refine XS.iloadN X181.here hx rfl (hb hby at_10) rfl ?_
    show Steps p.tables e below (T181.setTop (mkF m 11 #[.val (.int p0), .val (.ref b178), .val (.int (0 : Int32)), .unset, .unset, .unset, .unset, .unset, .unset] [(.int p0)])) _
    refine XS.iconst X181.here hx rfl (hb hby at_11) ?_
    show Steps p.tables e below (T181.setTop (mkF m 12 #[.val (.int p0), .val (.ref b178), .val (.int (0 : Int32)), .unset, .unset, .unset, .unset, .unset, .unset] [(.int (1 : Int32)), (.int p0)])) _
    refine XS.iand X181.here hx rfl (hb hby at_12) rfl ?_
    show Steps p.tables e below (T181.setTop (mkF m 13 #[.val (.int p0), .val (.ref b178), .val (.int (0 : Int32)), .unset, .unset, .unset, .unset, .unset, .unset] [(.int (p0 &&& (1 : Int32)))])) _
    exact kq)
  by_cases hc185 : (p0 &&& (1 : Int32)) = (0 : Int32)
  · have G186 : Go p e below A0 (T181.setTop (mkF m 25 #[.val (.int p0), .val (.ref b178), .val (.int (0 : Int32)), .unset, .unset, .unset, .unset, .unset, .unset] [(.ref b178)])) := fun tq kq => G184 tq (by
      refine XS.ifYes X181.here hx rfl (pc0 := 13) (pc' := 24) rfl (hb hby at_13) rfl ((if0 _ _).trans (teq hc185).1) (by decide) (by decide) ?_
      show Steps p.tables e below (T181.setTop (mkF m 24 #[.val (.int p0), .val (.ref b178), .val (.int (0 : Int32)), .unset, .unset, .unset, .unset, .unset, .unset] [])) _
      refine XS.aloadN X181.here hx rfl (hb hby at_24) rfl rfl ?_
      show Steps p.tables e below (T181.setTop (mkF m 25 #[.val (.int p0), .val (.ref b178), .val (.int (0 : Int32)), .unset, .unset, .unset, .unset, .unset, .unset] [(.ref b178)])) _
      exact kq)
    have f188 := (Nat.le_trans f182 K181.1)
    have f189 := (A178.keep K181)
    obtain ⟨cq187, kq187, q187a, q187b, q187c⟩ := isOf hZ rfl f189
    obtain ⟨_, _, ⟨T187, L187, k187, n187⟩, -, X187, ⟨Lc187, hQ187, l187, y187, z187⟩, st187⟩ := X181.virtualBack hx (y := (⟨"com/example/role_delegation/roledelegation/Hierarchy", "number", "()I"⟩ : MethodName)) (z := (⟨"com/example/role_delegation/roledelegation/Hierarchy", "number", "()I"⟩ : MethodName)) hown (mvT hZ (hw _ (List.mem_of_getElem? (i := 27) rfl))) (mvT hZ (hw _ (List.mem_of_getElem? (i := 28) rfl))) (notFace_of_selects (args := #[]) (mvT hZ (hw _ (List.mem_of_getElem? (i := 30) rfl)))) (mvT hZ (hw _ (List.mem_of_getElem? (i := 30) rfl))) (mvT hZ (hw _ (List.mem_of_getElem? (i := 29) rfl))) (by decide) (backOf (W := 0) (rm5 l Z a0 hw [] b178 (0 : Int32) (0 : Int32) T181.heap n0 f188 f189 g_b178 Fn181x Fc181x ) hZ (hw _ (List.mem_of_getElem? (i := 31) rfl)) (hw _ (List.mem_of_getElem? (i := 2) rfl)) (by decide) (by decide)) q187a q187c (g := (mkF m 25 #[.val (.int p0), .val (.ref b178), .val (.int (0 : Int32)), .unset, .unset, .unset, .unset, .unset, .unset] [(.ref b178)])) rfl (by rw [hml]; rfl) (Steps.refl _) (argsL := []) (rest := []) (lenOf pd_5 rfl) rfl (by show 2 * 0 + _ ≤ _; exact Nat.le_of_eq rfl) (hb hby at_25) (fun _ _ => ⟨rfl, rfl, (by decide : 2 + 0 ≤ _), (by decide : 11 + 0 ≤ _)⟩)
    dsimp only [Pt.U, Pt.locs, Pt.cells, Pt.slots] at X187 l187 y187 z187 st187 hQ187
    obtain rfl : k187 = 2 := y187
    obtain rfl : n187 = 11 := z187
    obtain ⟨rfl, N187q, K187, Fn187, Fc187⟩ := hQ187
    have N187 : Fr n0 L187 := by rw [l187]; exact Fr.app N181 N187q
    have Fn187x : Fld Z T187.heap b178 "com/example/role_delegation/roledelegation/Hierarchy" "numbered" "I" (.int (1 : Int32)) := Fn187
    have Fc187x : Fld Z T187.heap b178 "com/example/role_delegation/roledelegation/Hierarchy" "changes" "I" (.int (0 : Int32)) := Fc187
    have G190 : Go p e below A0 (T187.setTop (mkF m 28 #[.val (.int p0), .val (.ref b178), .val (.int (0 : Int32)), .unset, .unset, .unset, .unset, .unset, .unset] [(.int (0 : Int32))])) := fun tq kq => G186 tq (st187.trans kq)
    have G191 : Go p e below A0 (T187.setTop (mkF m 30 #[.val (.int p0), .val (.ref b178), .val (.int (0 : Int32)), .val (.int (0 : Int32)), .unset, .unset, .unset, .unset, .unset] [(.ref b178)])) := fun tq kq => G190 tq (by
      refine XS.istoreN X187.here hx rfl (hb hby at_28) rfl (l' := #[.val (.int p0), .val (.ref b178), .val (.int (0 : Int32)), .val (.int (0 : Int32)), .unset, .unset, .unset, .unset, .unset]) rfl ?_
      show Steps p.tables e below (T187.setTop (mkF m 29 #[.val (.int p0), .val (.ref b178), .val (.int (0 : Int32)), .val (.int (0 : Int32)), .unset, .unset, .unset, .unset, .unset] [])) _
      refine XS.aloadN X187.here hx rfl (hb hby at_29) rfl rfl ?_
      show Steps p.tables e below (T187.setTop (mkF m 30 #[.val (.int p0), .val (.ref b178), .val (.int (0 : Int32)), .val (.int (0 : Int32)), .unset, .unset, .unset, .unset, .unset] [(.ref b178)])) _
      exact kq)
    have f193 := (Nat.le_trans f188 K187.1)
    have f194 := (f189.keep K187)
    obtain ⟨cq192, kq192, q192a, q192b, q192c⟩ := isOf hZ rfl f194
    obtain ⟨_, _, ⟨T192, L192, k192, n192⟩, -, X192, ⟨Lc192, hQ192, l192, y192, z192⟩, st192⟩ := X187.virtualBack hx (y := (⟨"com/example/role_delegation/roledelegation/Hierarchy", "number", "()I"⟩ : MethodName)) (z := (⟨"com/example/role_delegation/roledelegation/Hierarchy", "number", "()I"⟩ : MethodName)) hown (mvT hZ (hw _ (List.mem_of_getElem? (i := 27) rfl))) (mvT hZ (hw _ (List.mem_of_getElem? (i := 28) rfl))) (notFace_of_selects (args := #[]) (mvT hZ (hw _ (List.mem_of_getElem? (i := 30) rfl)))) (mvT hZ (hw _ (List.mem_of_getElem? (i := 30) rfl))) (mvT hZ (hw _ (List.mem_of_getElem? (i := 29) rfl))) (by decide) (backOf (W := 0) (rm5 l Z a0 hw [] b178 (1 : Int32) (0 : Int32) T187.heap n0 f193 f194 g_b178 Fn187x Fc187x ) hZ (hw _ (List.mem_of_getElem? (i := 31) rfl)) (hw _ (List.mem_of_getElem? (i := 2) rfl)) (by decide) (by decide)) q192a q192c (g := (mkF m 30 #[.val (.int p0), .val (.ref b178), .val (.int (0 : Int32)), .val (.int (0 : Int32)), .unset, .unset, .unset, .unset, .unset] [(.ref b178)])) rfl (by rw [hml]; rfl) (Steps.refl _) (argsL := []) (rest := []) (lenOf pd_5 rfl) rfl (by show 2 * 0 + _ ≤ _; exact Nat.le_of_eq rfl) (hb hby at_30) (fun _ _ => ⟨rfl, rfl, (by decide : 2 + 0 ≤ _), (by decide : 11 + 0 ≤ _)⟩)
    dsimp only [Pt.U, Pt.locs, Pt.cells, Pt.slots] at X192 l192 y192 z192 st192 hQ192
    obtain rfl : k192 = 2 := y192
    obtain rfl : n192 = 11 := z192
    obtain ⟨rfl, N192q, K192, Fn192, Fc192⟩ := hQ192
    have N192 : Fr n0 L192 := by rw [l192]; exact Fr.app N187 N192q
    have Fn192x : Fld Z T192.heap b178 "com/example/role_delegation/roledelegation/Hierarchy" "numbered" "I" (.int (2 : Int32)) := Fn192
    have Fc192x : Fld Z T192.heap b178 "com/example/role_delegation/roledelegation/Hierarchy" "changes" "I" (.int (0 : Int32)) := Fc192
    have G195 : Go p e below A0 (T192.setTop (mkF m 33 #[.val (.int p0), .val (.ref b178), .val (.int (0 : Int32)), .val (.int (0 : Int32)), .unset, .unset, .unset, .unset, .unset] [(.int (1 : Int32))])) := fun tq kq => G191 tq (st192.trans kq)
    have G196 : Go p e below A0 (T192.setTop (mkF m 38 #[.val (.int p0), .val (.ref b178), .val (.int (0 : Int32)), .val (.int (0 : Int32)), .val (.int (1 : Int32)), .unset, .unset, .unset, .unset] [(.int (p0 &&& (2 : Int32)))])) := fun tq kq => G195 tq (by
      refine XS.istore X192.here hx rfl (hb hby at_33) rfl (l' := #[.val (.int p0), .val (.ref b178), .val (.int (0 : Int32)), .val (.int (0 : Int32)), .val (.int (1 : Int32)), .unset, .unset, .unset, .unset]) rfl ?_
      show Steps p.tables e below (T192.setTop (mkF m 35 #[.val (.int p0), .val (.ref b178), .val (.int (0 : Int32)), .val (.int (0 : Int32)), .val (.int (1 : Int32)), .unset, .unset, .unset, .unset] [])) _
      refine XS.iloadN X192.here hx rfl (hb hby at_35) rfl ?_
      show Steps p.tables e below (T192.setTop (mkF m 36 #[.val (.int p0), .val (.ref b178), .val (.int (0 : Int32)), .val (.int (0 : Int32)), .val (.int (1 : Int32)), .unset, .unset, .unset, .unset] [(.int p0)])) _
      refine XS.iconst X192.here hx rfl (hb hby at_36) ?_
      show Steps p.tables e below (T192.setTop (mkF m 37 #[.val (.int p0), .val (.ref b178), .val (.int (0 : Int32)), .val (.int (0 : Int32)), .val (.int (1 : Int32)), .unset, .unset, .unset, .unset] [(.int (2 : Int32)), (.int p0)])) _
      refine XS.iand X192.here hx rfl (hb hby at_37) rfl ?_
      show Steps p.tables e below (T192.setTop (mkF m 38 #[.val (.int p0), .val (.ref b178), .val (.int (0 : Int32)), .val (.int (0 : Int32)), .val (.int (1 : Int32)), .unset, .unset, .unset, .unset] [(.int (p0 &&& (2 : Int32)))])) _
      exact kq)
    by_cases hc197 : (p0 &&& (2 : Int32)) = (0 : Int32)
    · have G198 : Go p e below A0 (T192.setTop (mkF m 78 #[.val (.int p0), .val (.ref b178), .val (.int (0 : Int32)), .val (.int (0 : Int32)), .val (.int (1 : Int32)), .val (.int (0 : Int32)), .val (.int (-1 : Int32)), .unset, .unset] [(.int (p0 &&& (4 : Int32)))])) := fun tq kq => G196 tq (by
        refine XS.ifYes X192.here hx rfl (pc0 := 38) (pc' := 45) rfl (hb hby at_38) rfl ((if0 _ _).trans (teq hc197).1) (by decide) (by decide) ?_
        show Steps p.tables e below (T192.setTop (mkF m 45 #[.val (.int p0), .val (.ref b178), .val (.int (0 : Int32)), .val (.int (0 : Int32)), .val (.int (1 : Int32)), .unset, .unset, .unset, .unset] [])) _
        refine XS.iconst X192.here hx rfl (hb hby at_45) ?_
        show Steps p.tables e below (T192.setTop (mkF m 46 #[.val (.int p0), .val (.ref b178), .val (.int (0 : Int32)), .val (.int (0 : Int32)), .val (.int (1 : Int32)), .unset, .unset, .unset, .unset] [(.int (0 : Int32))])) _
        refine XS.istore X192.here hx rfl (hb hby at_46) rfl (l' := #[.val (.int p0), .val (.ref b178), .val (.int (0 : Int32)), .val (.int (0 : Int32)), .val (.int (1 : Int32)), .val (.int (0 : Int32)), .unset, .unset, .unset]) rfl ?_
        show Steps p.tables e below (T192.setTop (mkF m 48 #[.val (.int p0), .val (.ref b178), .val (.int (0 : Int32)), .val (.int (0 : Int32)), .val (.int (1 : Int32)), .val (.int (0 : Int32)), .unset, .unset, .unset] [])) _
        refine XS.iconst X192.here hx rfl (hb hby at_48) ?_
        show Steps p.tables e below (T192.setTop (mkF m 49 #[.val (.int p0), .val (.ref b178), .val (.int (0 : Int32)), .val (.int (0 : Int32)), .val (.int (1 : Int32)), .val (.int (0 : Int32)), .unset, .unset, .unset] [(.int (-1 : Int32))])) _
        refine XS.istore X192.here hx rfl (hb hby at_49) rfl (l' := #[.val (.int p0), .val (.ref b178), .val (.int (0 : Int32)), .val (.int (0 : Int32)), .val (.int (1 : Int32)), .val (.int (0 : Int32)), .val (.int (-1 : Int32)), .unset, .unset]) rfl ?_
        show Steps p.tables e below (T192.setTop (mkF m 51 #[.val (.int p0), .val (.ref b178), .val (.int (0 : Int32)), .val (.int (0 : Int32)), .val (.int (1 : Int32)), .val (.int (0 : Int32)), .val (.int (-1 : Int32)), .unset, .unset] [])) _
        refine XS.iload X192.here hx rfl (hb hby at_51) rfl ?_
        show Steps p.tables e below (T192.setTop (mkF m 53 #[.val (.int p0), .val (.ref b178), .val (.int (0 : Int32)), .val (.int (0 : Int32)), .val (.int (1 : Int32)), .val (.int (0 : Int32)), .val (.int (-1 : Int32)), .unset, .unset] [(.int (0 : Int32))])) _
        refine XS.ifYes X192.here hx rfl (pc0 := 53) (pc' := 75) rfl (hb hby at_53) rfl (by decide) (by decide) (by decide) ?_
        show Steps p.tables e below (T192.setTop (mkF m 75 #[.val (.int p0), .val (.ref b178), .val (.int (0 : Int32)), .val (.int (0 : Int32)), .val (.int (1 : Int32)), .val (.int (0 : Int32)), .val (.int (-1 : Int32)), .unset, .unset] [])) _
        refine XS.iloadN X192.here hx rfl (hb hby at_75) rfl ?_
        show Steps p.tables e below (T192.setTop (mkF m 76 #[.val (.int p0), .val (.ref b178), .val (.int (0 : Int32)), .val (.int (0 : Int32)), .val (.int (1 : Int32)), .val (.int (0 : Int32)), .val (.int (-1 : Int32)), .unset, .unset] [(.int p0)])) _
        refine XS.iconst X192.here hx rfl (hb hby at_76) ?_
        show Steps p.tables e below (T192.setTop (mkF m 77 #[.val (.int p0), .val (.ref b178), .val (.int (0 : Int32)), .val (.int (0 : Int32)), .val (.int (1 : Int32)), .val (.int (0 : Int32)), .val (.int (-1 : Int32)), .unset, .unset] [(.int (4 : Int32)), (.int p0)])) _
        refine XS.iand X192.here hx rfl (hb hby at_77) rfl ?_
        show Steps p.tables e below (T192.setTop (mkF m 78 #[.val (.int p0), .val (.ref b178), .val (.int (0 : Int32)), .val (.int (0 : Int32)), .val (.int (1 : Int32)), .val (.int (0 : Int32)), .val (.int (-1 : Int32)), .unset, .unset] [(.int (p0 &&& (4 : Int32)))])) _
        exact kq)
      by_cases hc199 : (p0 &&& (4 : Int32)) = (0 : Int32)
      · have G200 : Go p e below A0 (T192.setTop (mkF m 90 #[.val (.int p0), .val (.ref b178), .val (.int (0 : Int32)), .val (.int (0 : Int32)), .val (.int (1 : Int32)), .val (.int (0 : Int32)), .val (.int (-1 : Int32)), .unset, .unset] [(.ref b178)])) := fun tq kq => G198 tq (by
          refine XS.ifYes X192.here hx rfl (pc0 := 78) (pc' := 89) rfl (hb hby at_78) rfl ((if0 _ _).trans (teq hc199).1) (by decide) (by decide) ?_
          show Steps p.tables e below (T192.setTop (mkF m 89 #[.val (.int p0), .val (.ref b178), .val (.int (0 : Int32)), .val (.int (0 : Int32)), .val (.int (1 : Int32)), .val (.int (0 : Int32)), .val (.int (-1 : Int32)), .unset, .unset] [])) _
          refine XS.aloadN X192.here hx rfl (hb hby at_89) rfl rfl ?_
          show Steps p.tables e below (T192.setTop (mkF m 90 #[.val (.int p0), .val (.ref b178), .val (.int (0 : Int32)), .val (.int (0 : Int32)), .val (.int (1 : Int32)), .val (.int (0 : Int32)), .val (.int (-1 : Int32)), .unset, .unset] [(.ref b178)])) _
          exact kq)
        have f202 := (Nat.le_trans f193 K192.1)
        have f203 := (f194.keep K192)
        obtain ⟨cq201, kq201, q201a, q201b, q201c⟩ := isOf hZ rfl f203
        obtain ⟨_, _, ⟨T201, L201, k201, n201⟩, -, X201, ⟨Lc201, hQ201, l201, y201, z201⟩, st201⟩ := X192.virtualBack hx (y := (⟨"com/example/role_delegation/roledelegation/Hierarchy", "number", "()I"⟩ : MethodName)) (z := (⟨"com/example/role_delegation/roledelegation/Hierarchy", "number", "()I"⟩ : MethodName)) hown (mvT hZ (hw _ (List.mem_of_getElem? (i := 27) rfl))) (mvT hZ (hw _ (List.mem_of_getElem? (i := 28) rfl))) (notFace_of_selects (args := #[]) (mvT hZ (hw _ (List.mem_of_getElem? (i := 30) rfl)))) (mvT hZ (hw _ (List.mem_of_getElem? (i := 30) rfl))) (mvT hZ (hw _ (List.mem_of_getElem? (i := 29) rfl))) (by decide) (backOf (W := 0) (rm5 l Z a0 hw [] b178 (2 : Int32) (0 : Int32) T192.heap n0 f202 f203 g_b178 Fn192x Fc192x ) hZ (hw _ (List.mem_of_getElem? (i := 31) rfl)) (hw _ (List.mem_of_getElem? (i := 2) rfl)) (by decide) (by decide)) q201a q201c (g := (mkF m 90 #[.val (.int p0), .val (.ref b178), .val (.int (0 : Int32)), .val (.int (0 : Int32)), .val (.int (1 : Int32)), .val (.int (0 : Int32)), .val (.int (-1 : Int32)), .unset, .unset] [(.ref b178)])) rfl (by rw [hml]; rfl) (Steps.refl _) (argsL := []) (rest := []) (lenOf pd_5 rfl) rfl (by show 2 * 0 + _ ≤ _; exact Nat.le_of_eq rfl) (hb hby at_90) (fun _ _ => ⟨rfl, rfl, (by decide : 2 + 0 ≤ _), (by decide : 11 + 0 ≤ _)⟩)
        dsimp only [Pt.U, Pt.locs, Pt.cells, Pt.slots] at X201 l201 y201 z201 st201 hQ201
        obtain rfl : k201 = 2 := y201
        obtain rfl : n201 = 11 := z201
        obtain ⟨rfl, N201q, K201, Fn201, Fc201⟩ := hQ201
        have N201 : Fr n0 L201 := by rw [l201]; exact Fr.app N192 N201q
        have Fn201x : Fld Z T201.heap b178 "com/example/role_delegation/roledelegation/Hierarchy" "numbered" "I" (.int (3 : Int32)) := Fn201
        have Fc201x : Fld Z T201.heap b178 "com/example/role_delegation/roledelegation/Hierarchy" "changes" "I" (.int (0 : Int32)) := Fc201
        have G204 : Go p e below A0 (T201.setTop (mkF m 93 #[.val (.int p0), .val (.ref b178), .val (.int (0 : Int32)), .val (.int (0 : Int32)), .val (.int (1 : Int32)), .val (.int (0 : Int32)), .val (.int (-1 : Int32)), .unset, .unset] [(.int (2 : Int32))])) := fun tq kq => G200 tq (st201.trans kq)
        have G205 : Go p e below A0 (T201.setTop (mkF m 136 #[.val (.int p0), .val (.ref b178), .val (.int (0 : Int32)), .val (.int (0 : Int32)), .val (.int (1 : Int32)), .val (.int (0 : Int32)), .val (.int (-1 : Int32)), .val (.int (2 : Int32)), .val (.int (2 : Int32))] [(.ref b178)])) := fun tq kq => G204 tq (by
          refine XS.istore X201.here hx rfl (hb hby at_93) rfl (l' := #[.val (.int p0), .val (.ref b178), .val (.int (0 : Int32)), .val (.int (0 : Int32)), .val (.int (1 : Int32)), .val (.int (0 : Int32)), .val (.int (-1 : Int32)), .val (.int (2 : Int32)), .unset]) rfl ?_
          show Steps p.tables e below (T201.setTop (mkF m 95 #[.val (.int p0), .val (.ref b178), .val (.int (0 : Int32)), .val (.int (0 : Int32)), .val (.int (1 : Int32)), .val (.int (0 : Int32)), .val (.int (-1 : Int32)), .val (.int (2 : Int32)), .unset] [])) _
          refine XS.iload X201.here hx rfl (hb hby at_95) rfl ?_
          show Steps p.tables e below (T201.setTop (mkF m 97 #[.val (.int p0), .val (.ref b178), .val (.int (0 : Int32)), .val (.int (0 : Int32)), .val (.int (1 : Int32)), .val (.int (0 : Int32)), .val (.int (-1 : Int32)), .val (.int (2 : Int32)), .unset] [(.int (0 : Int32))])) _
          refine XS.ifYes X201.here hx rfl (pc0 := 97) (pc' := 104) rfl (hb hby at_97) rfl (by decide) (by decide) (by decide) ?_
          show Steps p.tables e below (T201.setTop (mkF m 104 #[.val (.int p0), .val (.ref b178), .val (.int (0 : Int32)), .val (.int (0 : Int32)), .val (.int (1 : Int32)), .val (.int (0 : Int32)), .val (.int (-1 : Int32)), .val (.int (2 : Int32)), .unset] [])) _
          refine XS.iconst X201.here hx rfl (hb hby at_104) ?_
          show Steps p.tables e below (T201.setTop (mkF m 105 #[.val (.int p0), .val (.ref b178), .val (.int (0 : Int32)), .val (.int (0 : Int32)), .val (.int (1 : Int32)), .val (.int (0 : Int32)), .val (.int (-1 : Int32)), .val (.int (2 : Int32)), .unset] [(.int (2 : Int32))])) _
          refine XS.istore X201.here hx rfl (hb hby at_105) rfl (l' := #[.val (.int p0), .val (.ref b178), .val (.int (0 : Int32)), .val (.int (0 : Int32)), .val (.int (1 : Int32)), .val (.int (0 : Int32)), .val (.int (-1 : Int32)), .val (.int (2 : Int32)), .val (.int (2 : Int32))]) rfl ?_
          show Steps p.tables e below (T201.setTop (mkF m 107 #[.val (.int p0), .val (.ref b178), .val (.int (0 : Int32)), .val (.int (0 : Int32)), .val (.int (1 : Int32)), .val (.int (0 : Int32)), .val (.int (-1 : Int32)), .val (.int (2 : Int32)), .val (.int (2 : Int32))] [])) _
          refine XS.iloadN X201.here hx rfl (hb hby at_107) rfl ?_
          show Steps p.tables e below (T201.setTop (mkF m 108 #[.val (.int p0), .val (.ref b178), .val (.int (0 : Int32)), .val (.int (0 : Int32)), .val (.int (1 : Int32)), .val (.int (0 : Int32)), .val (.int (-1 : Int32)), .val (.int (2 : Int32)), .val (.int (2 : Int32))] [(.int (0 : Int32))])) _
          refine XS.ifNo X201.here hx rfl (hb hby at_108) rfl (by decide) ?_
          show Steps p.tables e below (T201.setTop (mkF m 111 #[.val (.int p0), .val (.ref b178), .val (.int (0 : Int32)), .val (.int (0 : Int32)), .val (.int (1 : Int32)), .val (.int (0 : Int32)), .val (.int (-1 : Int32)), .val (.int (2 : Int32)), .val (.int (2 : Int32))] [])) _
          refine XS.iload X201.here hx rfl (hb hby at_111) rfl ?_
          show Steps p.tables e below (T201.setTop (mkF m 113 #[.val (.int p0), .val (.ref b178), .val (.int (0 : Int32)), .val (.int (0 : Int32)), .val (.int (1 : Int32)), .val (.int (0 : Int32)), .val (.int (-1 : Int32)), .val (.int (2 : Int32)), .val (.int (2 : Int32))] [(.int (1 : Int32))])) _
          refine XS.iconst X201.here hx rfl (hb hby at_113) ?_
          show Steps p.tables e below (T201.setTop (mkF m 114 #[.val (.int p0), .val (.ref b178), .val (.int (0 : Int32)), .val (.int (0 : Int32)), .val (.int (1 : Int32)), .val (.int (0 : Int32)), .val (.int (-1 : Int32)), .val (.int (2 : Int32)), .val (.int (2 : Int32))] [(.int (1 : Int32)), (.int (1 : Int32))])) _
          refine XS.icmpNo X201.here hx rfl (hb hby at_114) rfl (by decide) ?_
          show Steps p.tables e below (T201.setTop (mkF m 117 #[.val (.int p0), .val (.ref b178), .val (.int (0 : Int32)), .val (.int (0 : Int32)), .val (.int (1 : Int32)), .val (.int (0 : Int32)), .val (.int (-1 : Int32)), .val (.int (2 : Int32)), .val (.int (2 : Int32))] [])) _
          refine XS.iload X201.here hx rfl (hb hby at_117) rfl ?_
          show Steps p.tables e below (T201.setTop (mkF m 119 #[.val (.int p0), .val (.ref b178), .val (.int (0 : Int32)), .val (.int (0 : Int32)), .val (.int (1 : Int32)), .val (.int (0 : Int32)), .val (.int (-1 : Int32)), .val (.int (2 : Int32)), .val (.int (2 : Int32))] [(.int (0 : Int32))])) _
          refine XS.ifYes X201.here hx rfl (pc0 := 119) (pc' := 128) rfl (hb hby at_119) rfl (by decide) (by decide) (by decide) ?_
          show Steps p.tables e below (T201.setTop (mkF m 128 #[.val (.int p0), .val (.ref b178), .val (.int (0 : Int32)), .val (.int (0 : Int32)), .val (.int (1 : Int32)), .val (.int (0 : Int32)), .val (.int (-1 : Int32)), .val (.int (2 : Int32)), .val (.int (2 : Int32))] [])) _
          refine XS.iload X201.here hx rfl (hb hby at_128) rfl ?_
          show Steps p.tables e below (T201.setTop (mkF m 130 #[.val (.int p0), .val (.ref b178), .val (.int (0 : Int32)), .val (.int (0 : Int32)), .val (.int (1 : Int32)), .val (.int (0 : Int32)), .val (.int (-1 : Int32)), .val (.int (2 : Int32)), .val (.int (2 : Int32))] [(.int (2 : Int32))])) _
          refine XS.iload X201.here hx rfl (hb hby at_130) rfl ?_
          show Steps p.tables e below (T201.setTop (mkF m 132 #[.val (.int p0), .val (.ref b178), .val (.int (0 : Int32)), .val (.int (0 : Int32)), .val (.int (1 : Int32)), .val (.int (0 : Int32)), .val (.int (-1 : Int32)), .val (.int (2 : Int32)), .val (.int (2 : Int32))] [(.int (2 : Int32)), (.int (2 : Int32))])) _
          refine XS.icmpNo X201.here hx rfl (hb hby at_132) rfl (by decide) ?_
          show Steps p.tables e below (T201.setTop (mkF m 135 #[.val (.int p0), .val (.ref b178), .val (.int (0 : Int32)), .val (.int (0 : Int32)), .val (.int (1 : Int32)), .val (.int (0 : Int32)), .val (.int (-1 : Int32)), .val (.int (2 : Int32)), .val (.int (2 : Int32))] [])) _
          refine XS.aloadN X201.here hx rfl (hb hby at_135) rfl rfl ?_
          show Steps p.tables e below (T201.setTop (mkF m 136 #[.val (.int p0), .val (.ref b178), .val (.int (0 : Int32)), .val (.int (0 : Int32)), .val (.int (1 : Int32)), .val (.int (0 : Int32)), .val (.int (-1 : Int32)), .val (.int (2 : Int32)), .val (.int (2 : Int32))] [(.ref b178)])) _
          exact kq)
        have f207 := (Nat.le_trans f202 K201.1)
        have f208 := (f203.keep K201)
        obtain ⟨cq206, kq206, q206a, q206b, q206c⟩ := isOf hZ rfl f208
        obtain ⟨_, _, ⟨T206, L206, k206, n206⟩, -, X206, ⟨Lc206, hQ206, l206, y206, z206⟩, st206⟩ := X201.virtualBack hx (y := (⟨"com/example/role_delegation/roledelegation/Hierarchy", "changes", "()I"⟩ : MethodName)) (z := (⟨"com/example/role_delegation/roledelegation/Hierarchy", "changes", "()I"⟩ : MethodName)) hown (mvT hZ (hw _ (List.mem_of_getElem? (i := 34) rfl))) (mvT hZ (hw _ (List.mem_of_getElem? (i := 35) rfl))) (notFace_of_selects (args := #[]) (mvT hZ (hw _ (List.mem_of_getElem? (i := 37) rfl)))) (mvT hZ (hw _ (List.mem_of_getElem? (i := 37) rfl))) (mvT hZ (hw _ (List.mem_of_getElem? (i := 36) rfl))) (by decide) (backOf (W := 0) (rm6 l Z a0 hw [] b178 (3 : Int32) (0 : Int32) T201.heap n0 f207 f208 g_b178 Fn201x Fc201x) hZ (hw _ (List.mem_of_getElem? (i := 38) rfl)) (hw _ (List.mem_of_getElem? (i := 2) rfl)) (by decide) (by decide)) q206a q206c (g := (mkF m 136 #[.val (.int p0), .val (.ref b178), .val (.int (0 : Int32)), .val (.int (0 : Int32)), .val (.int (1 : Int32)), .val (.int (0 : Int32)), .val (.int (-1 : Int32)), .val (.int (2 : Int32)), .val (.int (2 : Int32))] [(.ref b178)])) rfl (by rw [hml]; rfl) (Steps.refl _) (argsL := []) (rest := []) (lenOf pd_5 rfl) rfl (by show 2 * 0 + _ ≤ _; exact Nat.le_of_eq rfl) (hb hby at_136) (fun _ _ => ⟨rfl, rfl, (by decide : 2 + 0 ≤ _), (by decide : 11 + 0 ≤ _)⟩)
        dsimp only [Pt.U, Pt.locs, Pt.cells, Pt.slots] at X206 l206 y206 z206 st206 hQ206
        obtain rfl : k206 = 2 := y206
        obtain rfl : n206 = 11 := z206
        obtain ⟨rfl, N206q, e206⟩ := hQ206
        have N206 : Fr n0 L206 := by rw [l206]; exact Fr.app N201 N206q
        have G209 : Go p e below A0 (T206.setTop (mkF m 139 #[.val (.int p0), .val (.ref b178), .val (.int (0 : Int32)), .val (.int (0 : Int32)), .val (.int (1 : Int32)), .val (.int (0 : Int32)), .val (.int (-1 : Int32)), .val (.int (2 : Int32)), .val (.int (2 : Int32))] [(.int (0 : Int32))])) := fun tq kq => G205 tq (st206.trans kq)
        have G210 : Go p e below A0 (T206.setTop (mkF m 148 #[.val (.int p0), .val (.ref b178), .val (.int (0 : Int32)), .val (.int (0 : Int32)), .val (.int (1 : Int32)), .val (.int (0 : Int32)), .val (.int (-1 : Int32)), .val (.int (2 : Int32)), .val (.int (2 : Int32))] [(.int (1 : Int32))])) := fun tq kq => G209 tq (by
          refine XS.iloadN X206.here hx rfl (hb hby at_139) rfl ?_
          show Steps p.tables e below (T206.setTop (mkF m 140 #[.val (.int p0), .val (.ref b178), .val (.int (0 : Int32)), .val (.int (0 : Int32)), .val (.int (1 : Int32)), .val (.int (0 : Int32)), .val (.int (-1 : Int32)), .val (.int (2 : Int32)), .val (.int (2 : Int32))] [(.int (0 : Int32)), (.int (0 : Int32))])) _
          refine XS.icmpNo X206.here hx rfl (hb hby at_140) rfl (by decide) ?_
          show Steps p.tables e below (T206.setTop (mkF m 143 #[.val (.int p0), .val (.ref b178), .val (.int (0 : Int32)), .val (.int (0 : Int32)), .val (.int (1 : Int32)), .val (.int (0 : Int32)), .val (.int (-1 : Int32)), .val (.int (2 : Int32)), .val (.int (2 : Int32))] [])) _
          refine XS.iconst X206.here hx rfl (hb hby at_143) ?_
          show Steps p.tables e below (T206.setTop (mkF m 144 #[.val (.int p0), .val (.ref b178), .val (.int (0 : Int32)), .val (.int (0 : Int32)), .val (.int (1 : Int32)), .val (.int (0 : Int32)), .val (.int (-1 : Int32)), .val (.int (2 : Int32)), .val (.int (2 : Int32))] [(.int (1 : Int32))])) _
          refine XS.goto X206.here hx rfl (pc0 := 144) (pc' := 148) rfl (hb hby at_144) (by decide) (by decide) ?_
          show Steps p.tables e below (T206.setTop (mkF m 148 #[.val (.int p0), .val (.ref b178), .val (.int (0 : Int32)), .val (.int (0 : Int32)), .val (.int (1 : Int32)), .val (.int (0 : Int32)), .val (.int (-1 : Int32)), .val (.int (2 : Int32)), .val (.int (2 : Int32))] [(.int (1 : Int32))])) _
          exact kq)
        have f211 := (Nat.le_trans (Nat.le_trans (Nat.le_trans (Nat.le_trans (Nat.le_trans (Nat.zero_le h0.size) E178.1) K181.1) K187.1) K192.1) K201.1)
        obtain ⟨fs, hr, hrun, hended, hRW⟩ := X206.leaveW (s := s) (vm₁ := s.vm) hS (by rw [e206]; exact f211) (v := some (.int (nar .boolean (1 : Int32)))) (fun h => by rw [Bd.returns] at h; cases h)
        refine ⟨_, _, (by rw [← hA0]; exact G210 _ (retN X206 hx (t := .boolean) Bd.returns (by simp) (hb hby at_148) hr)), hrun, hended, _, _, rfl, ?_, hRW.1, hRW.2.1, hRW.2.2.1, hRW.2.2.2.mono (by decide) (by decide)⟩
        exact ⟨rfl, N206⟩
      · have G212 : Go p e below A0 (T192.setTop (mkF m 82 #[.val (.int p0), .val (.ref b178), .val (.int (0 : Int32)), .val (.int (0 : Int32)), .val (.int (1 : Int32)), .val (.int (0 : Int32)), .val (.int (-1 : Int32)), .unset, .unset] [(.ref b178)])) := fun tq kq => G198 tq (by
          refine XS.ifNo X192.here hx rfl (hb hby at_78) rfl ((if0 _ _).trans (feq hc199).1) ?_
          show Steps p.tables e below (T192.setTop (mkF m 81 #[.val (.int p0), .val (.ref b178), .val (.int (0 : Int32)), .val (.int (0 : Int32)), .val (.int (1 : Int32)), .val (.int (0 : Int32)), .val (.int (-1 : Int32)), .unset, .unset] [])) _
          refine XS.aloadN X192.here hx rfl (hb hby at_81) rfl rfl ?_
          show Steps p.tables e below (T192.setTop (mkF m 82 #[.val (.int p0), .val (.ref b178), .val (.int (0 : Int32)), .val (.int (0 : Int32)), .val (.int (1 : Int32)), .val (.int (0 : Int32)), .val (.int (-1 : Int32)), .unset, .unset] [(.ref b178)])) _
          exact kq)
        have f214 := (Nat.le_trans f193 K192.1)
        have f215 := (f194.keep K192)
        obtain ⟨cq213, kq213, q213a, q213b, q213c⟩ := isOf hZ rfl f215
        obtain ⟨_, _, ⟨T213, L213, k213, n213⟩, -, X213, ⟨Lc213, hQ213, l213, y213, z213⟩, st213⟩ := X192.virtualBack hx (y := (⟨"com/example/role_delegation/roledelegation/Hierarchy", "changed", "()V"⟩ : MethodName)) (z := (⟨"com/example/role_delegation/roledelegation/Hierarchy", "changed", "()V"⟩ : MethodName)) hown (mvT hZ (hw _ (List.mem_of_getElem? (i := 41) rfl))) (mvT hZ (hw _ (List.mem_of_getElem? (i := 42) rfl))) (notFace_of_selects (args := #[]) (mvT hZ (hw _ (List.mem_of_getElem? (i := 44) rfl)))) (mvT hZ (hw _ (List.mem_of_getElem? (i := 44) rfl))) (mvT hZ (hw _ (List.mem_of_getElem? (i := 43) rfl))) (by decide) (backOf (W := 0) (rm7 l Z a0 hw [] b178 (2 : Int32) (0 : Int32) T192.heap n0 f214 f215 g_b178 Fn192x Fc192x ) hZ (hw _ (List.mem_of_getElem? (i := 45) rfl)) (hw _ (List.mem_of_getElem? (i := 2) rfl)) (by decide) (by decide)) q213a q213c (g := (mkF m 82 #[.val (.int p0), .val (.ref b178), .val (.int (0 : Int32)), .val (.int (0 : Int32)), .val (.int (1 : Int32)), .val (.int (0 : Int32)), .val (.int (-1 : Int32)), .unset, .unset] [(.ref b178)])) rfl (by rw [hml]; rfl) (Steps.refl _) (argsL := []) (rest := []) (lenOf pd_0 rfl) rfl (by show 2 * 0 + _ ≤ _; exact Nat.le_of_eq rfl) (hb hby at_82) (fun _ _ => ⟨rfl, rfl, (by decide : 2 + 0 ≤ _), (by decide : 11 + 0 ≤ _)⟩)
        dsimp only [Pt.U, Pt.locs, Pt.cells, Pt.slots] at X213 l213 y213 z213 st213 hQ213
        obtain rfl : k213 = 2 := y213
        obtain rfl : n213 = 11 := z213
        obtain ⟨rfl, N213q, K213, Fn213, Fc213⟩ := hQ213
        have N213 : Fr n0 L213 := by rw [l213]; exact Fr.app N192 N213q
        have Fn213x : Fld Z T213.heap b178 "com/example/role_delegation/roledelegation/Hierarchy" "numbered" "I" (.int (2 : Int32)) := Fn213
        have Fc213x : Fld Z T213.heap b178 "com/example/role_delegation/roledelegation/Hierarchy" "changes" "I" (.int (1 : Int32)) := Fc213
        have G216 : Go p e below A0 (T213.setTop (mkF m 85 #[.val (.int p0), .val (.ref b178), .val (.int (0 : Int32)), .val (.int (0 : Int32)), .val (.int (1 : Int32)), .val (.int (0 : Int32)), .val (.int (-1 : Int32)), .unset, .unset] [])) := fun tq kq => G212 tq (st213.trans kq)
        have G217 : Go p e below A0 (T213.setTop (mkF m 90 #[.val (.int p0), .val (.ref b178), .val (.int (1 : Int32)), .val (.int (0 : Int32)), .val (.int (1 : Int32)), .val (.int (0 : Int32)), .val (.int (-1 : Int32)), .unset, .unset] [(.ref b178)])) := fun tq kq => G216 tq (by
          refine XS.iloadN X213.here hx rfl (hb hby at_85) rfl ?_
          show Steps p.tables e below (T213.setTop (mkF m 86 #[.val (.int p0), .val (.ref b178), .val (.int (0 : Int32)), .val (.int (0 : Int32)), .val (.int (1 : Int32)), .val (.int (0 : Int32)), .val (.int (-1 : Int32)), .unset, .unset] [(.int (0 : Int32))])) _
          refine XS.iconst X213.here hx rfl (hb hby at_86) ?_
          show Steps p.tables e below (T213.setTop (mkF m 87 #[.val (.int p0), .val (.ref b178), .val (.int (0 : Int32)), .val (.int (0 : Int32)), .val (.int (1 : Int32)), .val (.int (0 : Int32)), .val (.int (-1 : Int32)), .unset, .unset] [(.int (1 : Int32)), (.int (0 : Int32))])) _
          refine XS.iadd X213.here hx rfl (hb hby at_87) rfl ?_
          show Steps p.tables e below (T213.setTop (mkF m 88 #[.val (.int p0), .val (.ref b178), .val (.int (0 : Int32)), .val (.int (0 : Int32)), .val (.int (1 : Int32)), .val (.int (0 : Int32)), .val (.int (-1 : Int32)), .unset, .unset] [(.int ((0 : Int32) + (1 : Int32)))])) _
          rw [show ((0 : Int32) + (1 : Int32)) = (1 : Int32) from (by decide : ((0 : Int32) + (1 : Int32)) = (1 : Int32))]
          show Steps p.tables e below (T213.setTop (mkF m 88 #[.val (.int p0), .val (.ref b178), .val (.int (0 : Int32)), .val (.int (0 : Int32)), .val (.int (1 : Int32)), .val (.int (0 : Int32)), .val (.int (-1 : Int32)), .unset, .unset] [(.int (1 : Int32))])) _
          refine XS.istoreN X213.here hx rfl (hb hby at_88) rfl (l' := #[.val (.int p0), .val (.ref b178), .val (.int (1 : Int32)), .val (.int (0 : Int32)), .val (.int (1 : Int32)), .val (.int (0 : Int32)), .val (.int (-1 : Int32)), .unset, .unset]) rfl ?_
          show Steps p.tables e below (T213.setTop (mkF m 89 #[.val (.int p0), .val (.ref b178), .val (.int (1 : Int32)), .val (.int (0 : Int32)), .val (.int (1 : Int32)), .val (.int (0 : Int32)), .val (.int (-1 : Int32)), .unset, .unset] [])) _
          refine XS.aloadN X213.here hx rfl (hb hby at_89) rfl rfl ?_
          show Steps p.tables e below (T213.setTop (mkF m 90 #[.val (.int p0), .val (.ref b178), .val (.int (1 : Int32)), .val (.int (0 : Int32)), .val (.int (1 : Int32)), .val (.int (0 : Int32)), .val (.int (-1 : Int32)), .unset, .unset] [(.ref b178)])) _
          exact kq)
        have f219 := (Nat.le_trans f214 K213.1)
        have f220 := (f215.keep K213)
        obtain ⟨cq218, kq218, q218a, q218b, q218c⟩ := isOf hZ rfl f220
        obtain ⟨_, _, ⟨T218, L218, k218, n218⟩, -, X218, ⟨Lc218, hQ218, l218, y218, z218⟩, st218⟩ := X213.virtualBack hx (y := (⟨"com/example/role_delegation/roledelegation/Hierarchy", "number", "()I"⟩ : MethodName)) (z := (⟨"com/example/role_delegation/roledelegation/Hierarchy", "number", "()I"⟩ : MethodName)) hown (mvT hZ (hw _ (List.mem_of_getElem? (i := 27) rfl))) (mvT hZ (hw _ (List.mem_of_getElem? (i := 28) rfl))) (notFace_of_selects (args := #[]) (mvT hZ (hw _ (List.mem_of_getElem? (i := 30) rfl)))) (mvT hZ (hw _ (List.mem_of_getElem? (i := 30) rfl))) (mvT hZ (hw _ (List.mem_of_getElem? (i := 29) rfl))) (by decide) (backOf (W := 0) (rm5 l Z a0 hw [] b178 (2 : Int32) (1 : Int32) T213.heap n0 f219 f220 g_b178 Fn213x Fc213x ) hZ (hw _ (List.mem_of_getElem? (i := 31) rfl)) (hw _ (List.mem_of_getElem? (i := 2) rfl)) (by decide) (by decide)) q218a q218c (g := (mkF m 90 #[.val (.int p0), .val (.ref b178), .val (.int (1 : Int32)), .val (.int (0 : Int32)), .val (.int (1 : Int32)), .val (.int (0 : Int32)), .val (.int (-1 : Int32)), .unset, .unset] [(.ref b178)])) rfl (by rw [hml]; rfl) (Steps.refl _) (argsL := []) (rest := []) (lenOf pd_5 rfl) rfl (by show 2 * 0 + _ ≤ _; exact Nat.le_of_eq rfl) (hb hby at_90) (fun _ _ => ⟨rfl, rfl, (by decide : 2 + 0 ≤ _), (by decide : 11 + 0 ≤ _)⟩)
        dsimp only [Pt.U, Pt.locs, Pt.cells, Pt.slots] at X218 l218 y218 z218 st218 hQ218
        obtain rfl : k218 = 2 := y218
        obtain rfl : n218 = 11 := z218
        obtain ⟨rfl, N218q, K218, Fn218, Fc218⟩ := hQ218
        have N218 : Fr n0 L218 := by rw [l218]; exact Fr.app N213 N218q
        have Fn218x : Fld Z T218.heap b178 "com/example/role_delegation/roledelegation/Hierarchy" "numbered" "I" (.int (3 : Int32)) := Fn218
        have Fc218x : Fld Z T218.heap b178 "com/example/role_delegation/roledelegation/Hierarchy" "changes" "I" (.int (1 : Int32)) := Fc218
        have G221 : Go p e below A0 (T218.setTop (mkF m 93 #[.val (.int p0), .val (.ref b178), .val (.int (1 : Int32)), .val (.int (0 : Int32)), .val (.int (1 : Int32)), .val (.int (0 : Int32)), .val (.int (-1 : Int32)), .unset, .unset] [(.int (2 : Int32))])) := fun tq kq => G217 tq (st218.trans kq)
        have G222 : Go p e below A0 (T218.setTop (mkF m 136 #[.val (.int p0), .val (.ref b178), .val (.int (1 : Int32)), .val (.int (0 : Int32)), .val (.int (1 : Int32)), .val (.int (0 : Int32)), .val (.int (-1 : Int32)), .val (.int (2 : Int32)), .val (.int (2 : Int32))] [(.ref b178)])) := fun tq kq => G221 tq (by
          refine XS.istore X218.here hx rfl (hb hby at_93) rfl (l' := #[.val (.int p0), .val (.ref b178), .val (.int (1 : Int32)), .val (.int (0 : Int32)), .val (.int (1 : Int32)), .val (.int (0 : Int32)), .val (.int (-1 : Int32)), .val (.int (2 : Int32)), .unset]) rfl ?_
          show Steps p.tables e below (T218.setTop (mkF m 95 #[.val (.int p0), .val (.ref b178), .val (.int (1 : Int32)), .val (.int (0 : Int32)), .val (.int (1 : Int32)), .val (.int (0 : Int32)), .val (.int (-1 : Int32)), .val (.int (2 : Int32)), .unset] [])) _
          refine XS.iload X218.here hx rfl (hb hby at_95) rfl ?_
          show Steps p.tables e below (T218.setTop (mkF m 97 #[.val (.int p0), .val (.ref b178), .val (.int (1 : Int32)), .val (.int (0 : Int32)), .val (.int (1 : Int32)), .val (.int (0 : Int32)), .val (.int (-1 : Int32)), .val (.int (2 : Int32)), .unset] [(.int (0 : Int32))])) _
          refine XS.ifYes X218.here hx rfl (pc0 := 97) (pc' := 104) rfl (hb hby at_97) rfl (by decide) (by decide) (by decide) ?_
          show Steps p.tables e below (T218.setTop (mkF m 104 #[.val (.int p0), .val (.ref b178), .val (.int (1 : Int32)), .val (.int (0 : Int32)), .val (.int (1 : Int32)), .val (.int (0 : Int32)), .val (.int (-1 : Int32)), .val (.int (2 : Int32)), .unset] [])) _
          refine XS.iconst X218.here hx rfl (hb hby at_104) ?_
          show Steps p.tables e below (T218.setTop (mkF m 105 #[.val (.int p0), .val (.ref b178), .val (.int (1 : Int32)), .val (.int (0 : Int32)), .val (.int (1 : Int32)), .val (.int (0 : Int32)), .val (.int (-1 : Int32)), .val (.int (2 : Int32)), .unset] [(.int (2 : Int32))])) _
          refine XS.istore X218.here hx rfl (hb hby at_105) rfl (l' := #[.val (.int p0), .val (.ref b178), .val (.int (1 : Int32)), .val (.int (0 : Int32)), .val (.int (1 : Int32)), .val (.int (0 : Int32)), .val (.int (-1 : Int32)), .val (.int (2 : Int32)), .val (.int (2 : Int32))]) rfl ?_
          show Steps p.tables e below (T218.setTop (mkF m 107 #[.val (.int p0), .val (.ref b178), .val (.int (1 : Int32)), .val (.int (0 : Int32)), .val (.int (1 : Int32)), .val (.int (0 : Int32)), .val (.int (-1 : Int32)), .val (.int (2 : Int32)), .val (.int (2 : Int32))] [])) _
          refine XS.iloadN X218.here hx rfl (hb hby at_107) rfl ?_
          show Steps p.tables e below (T218.setTop (mkF m 108 #[.val (.int p0), .val (.ref b178), .val (.int (1 : Int32)), .val (.int (0 : Int32)), .val (.int (1 : Int32)), .val (.int (0 : Int32)), .val (.int (-1 : Int32)), .val (.int (2 : Int32)), .val (.int (2 : Int32))] [(.int (0 : Int32))])) _
          refine XS.ifNo X218.here hx rfl (hb hby at_108) rfl (by decide) ?_
          show Steps p.tables e below (T218.setTop (mkF m 111 #[.val (.int p0), .val (.ref b178), .val (.int (1 : Int32)), .val (.int (0 : Int32)), .val (.int (1 : Int32)), .val (.int (0 : Int32)), .val (.int (-1 : Int32)), .val (.int (2 : Int32)), .val (.int (2 : Int32))] [])) _
          refine XS.iload X218.here hx rfl (hb hby at_111) rfl ?_
          show Steps p.tables e below (T218.setTop (mkF m 113 #[.val (.int p0), .val (.ref b178), .val (.int (1 : Int32)), .val (.int (0 : Int32)), .val (.int (1 : Int32)), .val (.int (0 : Int32)), .val (.int (-1 : Int32)), .val (.int (2 : Int32)), .val (.int (2 : Int32))] [(.int (1 : Int32))])) _
          refine XS.iconst X218.here hx rfl (hb hby at_113) ?_
          show Steps p.tables e below (T218.setTop (mkF m 114 #[.val (.int p0), .val (.ref b178), .val (.int (1 : Int32)), .val (.int (0 : Int32)), .val (.int (1 : Int32)), .val (.int (0 : Int32)), .val (.int (-1 : Int32)), .val (.int (2 : Int32)), .val (.int (2 : Int32))] [(.int (1 : Int32)), (.int (1 : Int32))])) _
          refine XS.icmpNo X218.here hx rfl (hb hby at_114) rfl (by decide) ?_
          show Steps p.tables e below (T218.setTop (mkF m 117 #[.val (.int p0), .val (.ref b178), .val (.int (1 : Int32)), .val (.int (0 : Int32)), .val (.int (1 : Int32)), .val (.int (0 : Int32)), .val (.int (-1 : Int32)), .val (.int (2 : Int32)), .val (.int (2 : Int32))] [])) _
          refine XS.iload X218.here hx rfl (hb hby at_117) rfl ?_
          show Steps p.tables e below (T218.setTop (mkF m 119 #[.val (.int p0), .val (.ref b178), .val (.int (1 : Int32)), .val (.int (0 : Int32)), .val (.int (1 : Int32)), .val (.int (0 : Int32)), .val (.int (-1 : Int32)), .val (.int (2 : Int32)), .val (.int (2 : Int32))] [(.int (0 : Int32))])) _
          refine XS.ifYes X218.here hx rfl (pc0 := 119) (pc' := 128) rfl (hb hby at_119) rfl (by decide) (by decide) (by decide) ?_
          show Steps p.tables e below (T218.setTop (mkF m 128 #[.val (.int p0), .val (.ref b178), .val (.int (1 : Int32)), .val (.int (0 : Int32)), .val (.int (1 : Int32)), .val (.int (0 : Int32)), .val (.int (-1 : Int32)), .val (.int (2 : Int32)), .val (.int (2 : Int32))] [])) _
          refine XS.iload X218.here hx rfl (hb hby at_128) rfl ?_
          show Steps p.tables e below (T218.setTop (mkF m 130 #[.val (.int p0), .val (.ref b178), .val (.int (1 : Int32)), .val (.int (0 : Int32)), .val (.int (1 : Int32)), .val (.int (0 : Int32)), .val (.int (-1 : Int32)), .val (.int (2 : Int32)), .val (.int (2 : Int32))] [(.int (2 : Int32))])) _
          refine XS.iload X218.here hx rfl (hb hby at_130) rfl ?_
          show Steps p.tables e below (T218.setTop (mkF m 132 #[.val (.int p0), .val (.ref b178), .val (.int (1 : Int32)), .val (.int (0 : Int32)), .val (.int (1 : Int32)), .val (.int (0 : Int32)), .val (.int (-1 : Int32)), .val (.int (2 : Int32)), .val (.int (2 : Int32))] [(.int (2 : Int32)), (.int (2 : Int32))])) _
          refine XS.icmpNo X218.here hx rfl (hb hby at_132) rfl (by decide) ?_
          show Steps p.tables e below (T218.setTop (mkF m 135 #[.val (.int p0), .val (.ref b178), .val (.int (1 : Int32)), .val (.int (0 : Int32)), .val (.int (1 : Int32)), .val (.int (0 : Int32)), .val (.int (-1 : Int32)), .val (.int (2 : Int32)), .val (.int (2 : Int32))] [])) _
          refine XS.aloadN X218.here hx rfl (hb hby at_135) rfl rfl ?_
          show Steps p.tables e below (T218.setTop (mkF m 136 #[.val (.int p0), .val (.ref b178), .val (.int (1 : Int32)), .val (.int (0 : Int32)), .val (.int (1 : Int32)), .val (.int (0 : Int32)), .val (.int (-1 : Int32)), .val (.int (2 : Int32)), .val (.int (2 : Int32))] [(.ref b178)])) _
          exact kq)
        have f224 := (Nat.le_trans f219 K218.1)
        have f225 := (f220.keep K218)
        obtain ⟨cq223, kq223, q223a, q223b, q223c⟩ := isOf hZ rfl f225
        obtain ⟨_, _, ⟨T223, L223, k223, n223⟩, -, X223, ⟨Lc223, hQ223, l223, y223, z223⟩, st223⟩ := X218.virtualBack hx (y := (⟨"com/example/role_delegation/roledelegation/Hierarchy", "changes", "()I"⟩ : MethodName)) (z := (⟨"com/example/role_delegation/roledelegation/Hierarchy", "changes", "()I"⟩ : MethodName)) hown (mvT hZ (hw _ (List.mem_of_getElem? (i := 34) rfl))) (mvT hZ (hw _ (List.mem_of_getElem? (i := 35) rfl))) (notFace_of_selects (args := #[]) (mvT hZ (hw _ (List.mem_of_getElem? (i := 37) rfl)))) (mvT hZ (hw _ (List.mem_of_getElem? (i := 37) rfl))) (mvT hZ (hw _ (List.mem_of_getElem? (i := 36) rfl))) (by decide) (backOf (W := 0) (rm6 l Z a0 hw [] b178 (3 : Int32) (1 : Int32) T218.heap n0 f224 f225 g_b178 Fn218x Fc218x) hZ (hw _ (List.mem_of_getElem? (i := 38) rfl)) (hw _ (List.mem_of_getElem? (i := 2) rfl)) (by decide) (by decide)) q223a q223c (g := (mkF m 136 #[.val (.int p0), .val (.ref b178), .val (.int (1 : Int32)), .val (.int (0 : Int32)), .val (.int (1 : Int32)), .val (.int (0 : Int32)), .val (.int (-1 : Int32)), .val (.int (2 : Int32)), .val (.int (2 : Int32))] [(.ref b178)])) rfl (by rw [hml]; rfl) (Steps.refl _) (argsL := []) (rest := []) (lenOf pd_5 rfl) rfl (by show 2 * 0 + _ ≤ _; exact Nat.le_of_eq rfl) (hb hby at_136) (fun _ _ => ⟨rfl, rfl, (by decide : 2 + 0 ≤ _), (by decide : 11 + 0 ≤ _)⟩)
        dsimp only [Pt.U, Pt.locs, Pt.cells, Pt.slots] at X223 l223 y223 z223 st223 hQ223
        obtain rfl : k223 = 2 := y223
        obtain rfl : n223 = 11 := z223
        obtain ⟨rfl, N223q, e223⟩ := hQ223
        have N223 : Fr n0 L223 := by rw [l223]; exact Fr.app N218 N223q
        have G226 : Go p e below A0 (T223.setTop (mkF m 139 #[.val (.int p0), .val (.ref b178), .val (.int (1 : Int32)), .val (.int (0 : Int32)), .val (.int (1 : Int32)), .val (.int (0 : Int32)), .val (.int (-1 : Int32)), .val (.int (2 : Int32)), .val (.int (2 : Int32))] [(.int (1 : Int32))])) := fun tq kq => G222 tq (st223.trans kq)
        have G227 : Go p e below A0 (T223.setTop (mkF m 148 #[.val (.int p0), .val (.ref b178), .val (.int (1 : Int32)), .val (.int (0 : Int32)), .val (.int (1 : Int32)), .val (.int (0 : Int32)), .val (.int (-1 : Int32)), .val (.int (2 : Int32)), .val (.int (2 : Int32))] [(.int (1 : Int32))])) := fun tq kq => G226 tq (by
          refine XS.iloadN X223.here hx rfl (hb hby at_139) rfl ?_
          show Steps p.tables e below (T223.setTop (mkF m 140 #[.val (.int p0), .val (.ref b178), .val (.int (1 : Int32)), .val (.int (0 : Int32)), .val (.int (1 : Int32)), .val (.int (0 : Int32)), .val (.int (-1 : Int32)), .val (.int (2 : Int32)), .val (.int (2 : Int32))] [(.int (1 : Int32)), (.int (1 : Int32))])) _
          refine XS.icmpNo X223.here hx rfl (hb hby at_140) rfl (by decide) ?_
          show Steps p.tables e below (T223.setTop (mkF m 143 #[.val (.int p0), .val (.ref b178), .val (.int (1 : Int32)), .val (.int (0 : Int32)), .val (.int (1 : Int32)), .val (.int (0 : Int32)), .val (.int (-1 : Int32)), .val (.int (2 : Int32)), .val (.int (2 : Int32))] [])) _
          refine XS.iconst X223.here hx rfl (hb hby at_143) ?_
          show Steps p.tables e below (T223.setTop (mkF m 144 #[.val (.int p0), .val (.ref b178), .val (.int (1 : Int32)), .val (.int (0 : Int32)), .val (.int (1 : Int32)), .val (.int (0 : Int32)), .val (.int (-1 : Int32)), .val (.int (2 : Int32)), .val (.int (2 : Int32))] [(.int (1 : Int32))])) _
          refine XS.goto X223.here hx rfl (pc0 := 144) (pc' := 148) rfl (hb hby at_144) (by decide) (by decide) ?_
          show Steps p.tables e below (T223.setTop (mkF m 148 #[.val (.int p0), .val (.ref b178), .val (.int (1 : Int32)), .val (.int (0 : Int32)), .val (.int (1 : Int32)), .val (.int (0 : Int32)), .val (.int (-1 : Int32)), .val (.int (2 : Int32)), .val (.int (2 : Int32))] [(.int (1 : Int32))])) _
          exact kq)
        have f228 := (Nat.le_trans (Nat.le_trans (Nat.le_trans (Nat.le_trans (Nat.le_trans (Nat.le_trans (Nat.zero_le h0.size) E178.1) K181.1) K187.1) K192.1) K213.1) K218.1)
        obtain ⟨fs, hr, hrun, hended, hRW⟩ := X223.leaveW (s := s) (vm₁ := s.vm) hS (by rw [e223]; exact f228) (v := some (.int (nar .boolean (1 : Int32)))) (fun h => by rw [Bd.returns] at h; cases h)
        refine ⟨_, _, (by rw [← hA0]; exact G227 _ (retN X223 hx (t := .boolean) Bd.returns (by simp) (hb hby at_148) hr)), hrun, hended, _, _, rfl, ?_, hRW.1, hRW.2.1, hRW.2.2.1, hRW.2.2.2.mono (by decide) (by decide)⟩
        exact ⟨rfl, N223⟩
    · have G229 : Go p e below A0 (T192.setTop (mkF m 56 #[.val (.int p0), .val (.ref b178), .val (.int (0 : Int32)), .val (.int (0 : Int32)), .val (.int (1 : Int32)), .val (.int (1 : Int32)), .val (.int (-1 : Int32)), .unset, .unset] [])) := fun tq kq => G196 tq (by
        refine XS.ifNo X192.here hx rfl (hb hby at_38) rfl ((if0 _ _).trans (feq hc197).1) ?_
        show Steps p.tables e below (T192.setTop (mkF m 41 #[.val (.int p0), .val (.ref b178), .val (.int (0 : Int32)), .val (.int (0 : Int32)), .val (.int (1 : Int32)), .unset, .unset, .unset, .unset] [])) _
        refine XS.iconst X192.here hx rfl (hb hby at_41) ?_
        show Steps p.tables e below (T192.setTop (mkF m 42 #[.val (.int p0), .val (.ref b178), .val (.int (0 : Int32)), .val (.int (0 : Int32)), .val (.int (1 : Int32)), .unset, .unset, .unset, .unset] [(.int (1 : Int32))])) _
        refine XS.goto X192.here hx rfl (pc0 := 42) (pc' := 46) rfl (hb hby at_42) (by decide) (by decide) ?_
        show Steps p.tables e below (T192.setTop (mkF m 46 #[.val (.int p0), .val (.ref b178), .val (.int (0 : Int32)), .val (.int (0 : Int32)), .val (.int (1 : Int32)), .unset, .unset, .unset, .unset] [(.int (1 : Int32))])) _
        refine XS.istore X192.here hx rfl (hb hby at_46) rfl (l' := #[.val (.int p0), .val (.ref b178), .val (.int (0 : Int32)), .val (.int (0 : Int32)), .val (.int (1 : Int32)), .val (.int (1 : Int32)), .unset, .unset, .unset]) rfl ?_
        show Steps p.tables e below (T192.setTop (mkF m 48 #[.val (.int p0), .val (.ref b178), .val (.int (0 : Int32)), .val (.int (0 : Int32)), .val (.int (1 : Int32)), .val (.int (1 : Int32)), .unset, .unset, .unset] [])) _
        refine XS.iconst X192.here hx rfl (hb hby at_48) ?_
        show Steps p.tables e below (T192.setTop (mkF m 49 #[.val (.int p0), .val (.ref b178), .val (.int (0 : Int32)), .val (.int (0 : Int32)), .val (.int (1 : Int32)), .val (.int (1 : Int32)), .unset, .unset, .unset] [(.int (-1 : Int32))])) _
        refine XS.istore X192.here hx rfl (hb hby at_49) rfl (l' := #[.val (.int p0), .val (.ref b178), .val (.int (0 : Int32)), .val (.int (0 : Int32)), .val (.int (1 : Int32)), .val (.int (1 : Int32)), .val (.int (-1 : Int32)), .unset, .unset]) rfl ?_
        show Steps p.tables e below (T192.setTop (mkF m 51 #[.val (.int p0), .val (.ref b178), .val (.int (0 : Int32)), .val (.int (0 : Int32)), .val (.int (1 : Int32)), .val (.int (1 : Int32)), .val (.int (-1 : Int32)), .unset, .unset] [])) _
        refine XS.iload X192.here hx rfl (hb hby at_51) rfl ?_
        show Steps p.tables e below (T192.setTop (mkF m 53 #[.val (.int p0), .val (.ref b178), .val (.int (0 : Int32)), .val (.int (0 : Int32)), .val (.int (1 : Int32)), .val (.int (1 : Int32)), .val (.int (-1 : Int32)), .unset, .unset] [(.int (1 : Int32))])) _
        refine XS.ifNo X192.here hx rfl (hb hby at_53) rfl (by decide) ?_
        show Steps p.tables e below (T192.setTop (mkF m 56 #[.val (.int p0), .val (.ref b178), .val (.int (0 : Int32)), .val (.int (0 : Int32)), .val (.int (1 : Int32)), .val (.int (1 : Int32)), .val (.int (-1 : Int32)), .unset, .unset] [])) _
        exact kq)
      have f231 := (Nat.le_trans f193 K192.1)
      obtain ⟨T230, h230, X230, e230, E230, A230, D230, -, st230⟩ := newO X192 hx hZ hown (hw _ (List.mem_of_getElem? (i := 46) rfl)) (hw _ (List.mem_of_getElem? (i := 47) rfl)) (hw _ (List.mem_of_getElem? (i := 48) rfl)) rfl (g := (mkF m 56 #[.val (.int p0), .val (.ref b178), .val (.int (0 : Int32)), .val (.int (0 : Int32)), .val (.int (1 : Int32)), .val (.int (1 : Int32)), .val (.int (-1 : Int32)), .unset, .unset] [])) rfl (hb hby at_56) (by decide) (by decide)
      obtain ⟨b230, g230⟩ : ∃ z, z = T192.heap.size := ⟨_, rfl⟩
      rw [← g230] at A230 D230 st230
      have f232 := (Nat.le_trans (Nat.le_trans (Nat.le_trans (Nat.le_trans (Nat.le_refl h0.size) E178.1) K181.1) K187.1) K192.1)
      have sz_b230 : h0.size ≤ b230 := Nat.le_trans f232 (Nat.le_of_eq g230.symm)
      have g_b230 : n0 ≤ b230 := Nat.le_trans f231 (Nat.le_of_eq g230.symm)
      have ne_b178_b230 : b178 ≠ b230 := Nat.ne_of_lt (Nat.lt_of_lt_of_le (f194.keep K192).lt (Nat.le_of_eq g230.symm))
      have F230_juniors : Fld Z h230 b230 "com/example/role_delegation/roledelegation/Role" "juniors" "Ljava/util/List;" .null := D230 (Or.inr (hw _ (List.mem_of_getElem? (i := 86) rfl))) (ty := (.object "java/util/List")) (by decide)
      have F230_permissions : Fld Z h230 b230 "com/example/role_delegation/roledelegation/Role" "permissions" "Ljava/util/Set;" .null := D230 (Or.inr (hw _ (List.mem_of_getElem? (i := 144) rfl))) (ty := (.object "java/util/Set")) (by decide)
      have F230_name : Fld Z h230 b230 "com/example/role_delegation/roledelegation/Role" "name" "Ljava/lang/String;" .null := D230 (Or.inr (hw _ (List.mem_of_getElem? (i := 146) rfl))) (ty := (.object "java/lang/String")) (by decide)
      have F230_hierarchy : Fld Z h230 b230 "com/example/role_delegation/roledelegation/Role" "hierarchy" "Lcom/example/role_delegation/roledelegation/Hierarchy;" .null := D230 (Or.inr (hw _ (List.mem_of_getElem? (i := 148) rfl))) (ty := (.object "com/example/role_delegation/roledelegation/Hierarchy")) (by decide)
      have F230_number : Fld Z h230 b230 "com/example/role_delegation/roledelegation/Role" "number" "I" (.int (0 : Int32)) := D230 (Or.inr (hw _ (List.mem_of_getElem? (i := 151) rfl))) (ty := .int) (by decide)
      have G233 : Go p e below A0 (T230.setTop (mkF m 59 #[.val (.int p0), .val (.ref b178), .val (.int (0 : Int32)), .val (.int (0 : Int32)), .val (.int (1 : Int32)), .val (.int (1 : Int32)), .val (.int (-1 : Int32)), .unset, .unset] [(.ref b230)])) := fun tq kq => G229 tq (st230 _ kq)
      have G234 : Go p e below A0 (T230.setTop (mkF m 60 #[.val (.int p0), .val (.ref b178), .val (.int (0 : Int32)), .val (.int (0 : Int32)), .val (.int (1 : Int32)), .val (.int (1 : Int32)), .val (.int (-1 : Int32)), .unset, .unset] [(.ref b230), (.ref b230)])) := fun tq kq => G233 tq (by
        refine XS.dup X230.here hx rfl (hb hby at_59) rfl rfl ?_
        show Steps p.tables e below (T230.setTop (mkF m 60 #[.val (.int p0), .val (.ref b178), .val (.int (0 : Int32)), .val (.int (0 : Int32)), .val (.int (1 : Int32)), .val (.int (1 : Int32)), .val (.int (-1 : Int32)), .unset, .unset] [(.ref b230), (.ref b230)])) _
        exact kq)
      have f236 := (Nat.le_trans (Nat.le_trans (Nat.le_trans (Nat.le_trans (Nat.le_trans (Nat.zero_le h0.size) E178.1) K181.1) K187.1) K192.1) E230.1)
      obtain ⟨a235, T235, h235, k235, X235, e235, E235, hS, hk235, hZ, hown, st235⟩ := ldcS (s := s) (vm0 := s.vm) X230 hx hZ hown (hw _ (List.mem_of_getElem? (i := 49) rfl)) hstr e230 hS f236 (g := (mkF m 60 #[.val (.int p0), .val (.ref b178), .val (.int (0 : Int32)), .val (.int (0 : Int32)), .val (.int (1 : Int32)), .val (.int (1 : Int32)), .val (.int (-1 : Int32)), .unset, .unset] [(.ref b230), (.ref b230)])) rfl (hb hby at_60) (n := 4) (by decide) (by decide) (by decide) (by decide)
      have G237 : Go p e below A0 (T235.setTop (mkF m 62 #[.val (.int p0), .val (.ref b178), .val (.int (0 : Int32)), .val (.int (0 : Int32)), .val (.int (1 : Int32)), .val (.int (1 : Int32)), .val (.int (-1 : Int32)), .unset, .unset] [(.ref a235), (.ref b230), (.ref b230)])) := fun tq kq => G234 tq (st235 _ kq)
      have G238 : Go p e below A0 (T235.setTop (mkF m 63 #[.val (.int p0), .val (.ref b178), .val (.int (0 : Int32)), .val (.int (0 : Int32)), .val (.int (1 : Int32)), .val (.int (1 : Int32)), .val (.int (-1 : Int32)), .unset, .unset] [(.ref b178), (.ref a235), (.ref b230), (.ref b230)])) := fun tq kq => G237 tq (by
        refine XS.aloadN X235.here hx rfl (hb hby at_62) rfl rfl ?_
        show Steps p.tables e below (T235.setTop (mkF m 63 #[.val (.int p0), .val (.ref b178), .val (.int (0 : Int32)), .val (.int (0 : Int32)), .val (.int (1 : Int32)), .val (.int (1 : Int32)), .val (.int (-1 : Int32)), .unset, .unset] [(.ref b178), (.ref a235), (.ref b230), (.ref b230)])) _
        exact kq)
      have f240 := (Nat.le_trans (Nat.le_trans f231 E230.1) E235.1)
      have f241 := (A230.ext E235)
      have f242 := (((f194.keep K192).ext E230).ext E235)
      have f243 := ((Fn192x.ext E230).ext E235)
      have f244 := ((Fc192x.ext E230).ext E235)
      have f245 := ((((((hold.ext E178).keep K181 (allS g_b178 all0)).keep K187 (allS g_b178 all0)).keep K192 (allS g_b178 all0)).ext E230).ext E235)
      have f246 := (F230_juniors.ext E235)
      have f247 := (F230_permissions.ext E235)
      have f248 := (F230_name.ext E235)
      have f249 := (F230_hierarchy.ext E235)
      have f250 := (F230_number.ext E235)
      obtain ⟨_, _, ⟨T239, L239, k239, n239⟩, -, X239, ⟨Lc239, hQ239, l239, y239, z239⟩, st239⟩ := X235.specialBack hx (y := (⟨"com/example/role_delegation/roledelegation/Role", "<init>", "(Ljava/lang/String;Lcom/example/role_delegation/roledelegation/Hierarchy;)V"⟩ : MethodName)) rfl hown (mvT hZ (hw _ (List.mem_of_getElem? (i := 57) rfl))) (mvT hZ (hw _ (List.mem_of_getElem? (i := 58) rfl))) (mvT hZ (hw _ (List.mem_of_getElem? (i := 59) rfl))) (by decide) (backOf (W := 1) (rm8 l Z a0 hw [] b230 a235 b178 da (2 : Int32) (0 : Int32) h235 n0 f240 f242 g_b178 f243 f244 f241 g_b230 (Ne.symm ne_b178_b230) f245 hSd f246 f247 f248 f249 f250) hZ (hw _ (List.mem_of_getElem? (i := 59) rfl)) (hw _ (List.mem_of_getElem? (i := 48) rfl)) (by decide) (by decide)) (g := (mkF m 63 #[.val (.int p0), .val (.ref b178), .val (.int (0 : Int32)), .val (.int (0 : Int32)), .val (.int (1 : Int32)), .val (.int (1 : Int32)), .val (.int (-1 : Int32)), .unset, .unset] [(.ref b178), (.ref a235), (.ref b230), (.ref b230)])) rfl (by rw [hml]; rfl) (Steps.refl _) (a := b230) (argsL := [(.ref a235), (.ref b178)]) (rest := [(.ref b230)]) (lenOf pd_6 rfl) rfl (by show 2 * 0 + _ ≤ _; exact Nat.le_of_eq rfl) (hb hby at_63) (fun _ _ => ⟨rfl, e235, (by decide : 5 + 3 ≤ _), (by decide : 25 + 16 ≤ _)⟩)
      dsimp only [Pt.U, Pt.locs, Pt.cells, Pt.slots] at X239 l239 y239 z239 st239 hQ239
      obtain rfl : k239 = 8 := y239
      obtain rfl : n239 = 41 := z239
      obtain ⟨rfl, N239q, K239, Fr239, Fn239, Fc239⟩ := hQ239
      have N239 : Fr n0 L239 := by rw [l239]; exact Fr.app N192 N239q
      have Fn239x : Fld Z T239.heap b178 "com/example/role_delegation/roledelegation/Hierarchy" "numbered" "I" (.int (3 : Int32)) := Fn239
      have G251 : Go p e below A0 (T239.setTop (mkF m 66 #[.val (.int p0), .val (.ref b178), .val (.int (0 : Int32)), .val (.int (0 : Int32)), .val (.int (1 : Int32)), .val (.int (1 : Int32)), .val (.int (-1 : Int32)), .unset, .unset] [(.ref b230)])) := fun tq kq => G238 tq (st239.trans kq)
      have G252 : Go p e below A0 (T239.setTop (mkF m 70 #[.val (.int p0), .val (.ref b178), .val (.int (0 : Int32)), .val (.int (0 : Int32)), .val (.int (1 : Int32)), .val (.int (1 : Int32)), .val (.int (-1 : Int32)), .val (.ref b230), .unset] [(.ref b230)])) := fun tq kq => G251 tq (by
        refine XS.astore X239.here hx rfl (hb hby at_66) rfl rfl (l' := #[.val (.int p0), .val (.ref b178), .val (.int (0 : Int32)), .val (.int (0 : Int32)), .val (.int (1 : Int32)), .val (.int (1 : Int32)), .val (.int (-1 : Int32)), .val (.ref b230), .unset]) rfl ?_
        show Steps p.tables e below (T239.setTop (mkF m 68 #[.val (.int p0), .val (.ref b178), .val (.int (0 : Int32)), .val (.int (0 : Int32)), .val (.int (1 : Int32)), .val (.int (1 : Int32)), .val (.int (-1 : Int32)), .val (.ref b230), .unset] [])) _
        refine XS.aload X239.here hx rfl (hb hby at_68) rfl rfl ?_
        show Steps p.tables e below (T239.setTop (mkF m 70 #[.val (.int p0), .val (.ref b178), .val (.int (0 : Int32)), .val (.int (0 : Int32)), .val (.int (1 : Int32)), .val (.int (1 : Int32)), .val (.int (-1 : Int32)), .val (.ref b230), .unset] [(.ref b230)])) _
        exact kq)
      have f254 := (Nat.le_trans f240 K239.1)
      have f255 := (f241.keep K239)
      obtain ⟨cq253, kq253, q253a, q253b, q253c⟩ := isOf hZ rfl f255
      obtain ⟨_, _, ⟨T253, L253, k253, n253⟩, -, X253, ⟨Lc253, hQ253, l253, y253, z253⟩, st253⟩ := X239.virtualBack hx (y := (⟨"com/example/role_delegation/roledelegation/Role", "number", "()I"⟩ : MethodName)) (z := (⟨"com/example/role_delegation/roledelegation/Role", "number", "()I"⟩ : MethodName)) hown (mvT hZ (hw _ (List.mem_of_getElem? (i := 152) rfl))) (mvT hZ (hw _ (List.mem_of_getElem? (i := 153) rfl))) (notFace_of_selects (args := #[]) (mvT hZ (hw _ (List.mem_of_getElem? (i := 155) rfl)))) (mvT hZ (hw _ (List.mem_of_getElem? (i := 155) rfl))) (mvT hZ (hw _ (List.mem_of_getElem? (i := 154) rfl))) (by decide) (backOf (W := 0) (rm20 l Z a0 hw [] b230 (2 : Int32) T239.heap n0 f254 Fr239) hZ (hw _ (List.mem_of_getElem? (i := 156) rfl)) (hw _ (List.mem_of_getElem? (i := 48) rfl)) (by decide) (by decide)) q253a q253c (g := (mkF m 70 #[.val (.int p0), .val (.ref b178), .val (.int (0 : Int32)), .val (.int (0 : Int32)), .val (.int (1 : Int32)), .val (.int (1 : Int32)), .val (.int (-1 : Int32)), .val (.ref b230), .unset] [(.ref b230)])) rfl (by rw [hml]; rfl) (Steps.refl _) (argsL := []) (rest := []) (lenOf pd_5 rfl) rfl (by show 2 * 0 + _ ≤ _; exact Nat.le_of_eq rfl) (hb hby at_70) (fun _ _ => ⟨rfl, rfl, (by decide : 8 + 0 ≤ _), (by decide : 41 + 0 ≤ _)⟩)
      dsimp only [Pt.U, Pt.locs, Pt.cells, Pt.slots] at X253 l253 y253 z253 st253 hQ253
      obtain rfl : k253 = 8 := y253
      obtain rfl : n253 = 41 := z253
      obtain ⟨rfl, N253q, e253⟩ := hQ253
      have N253 : Fr n0 L253 := by rw [l253]; exact Fr.app N239 N253q
      have G256 : Go p e below A0 (T253.setTop (mkF m 73 #[.val (.int p0), .val (.ref b178), .val (.int (0 : Int32)), .val (.int (0 : Int32)), .val (.int (1 : Int32)), .val (.int (1 : Int32)), .val (.int (-1 : Int32)), .val (.ref b230), .unset] [(.int (2 : Int32))])) := fun tq kq => G252 tq (st253.trans kq)
      have G257 : Go p e below A0 (T253.setTop (mkF m 78 #[.val (.int p0), .val (.ref b178), .val (.int (0 : Int32)), .val (.int (0 : Int32)), .val (.int (1 : Int32)), .val (.int (1 : Int32)), .val (.int (2 : Int32)), .val (.ref b230), .unset] [(.int (p0 &&& (4 : Int32)))])) := fun tq kq => G256 tq (by
        refine XS.istore X253.here hx rfl (hb hby at_73) rfl (l' := #[.val (.int p0), .val (.ref b178), .val (.int (0 : Int32)), .val (.int (0 : Int32)), .val (.int (1 : Int32)), .val (.int (1 : Int32)), .val (.int (2 : Int32)), .val (.ref b230), .unset]) rfl ?_
        show Steps p.tables e below (T253.setTop (mkF m 75 #[.val (.int p0), .val (.ref b178), .val (.int (0 : Int32)), .val (.int (0 : Int32)), .val (.int (1 : Int32)), .val (.int (1 : Int32)), .val (.int (2 : Int32)), .val (.ref b230), .unset] [])) _
        refine XS.iloadN X253.here hx rfl (hb hby at_75) rfl ?_
        show Steps p.tables e below (T253.setTop (mkF m 76 #[.val (.int p0), .val (.ref b178), .val (.int (0 : Int32)), .val (.int (0 : Int32)), .val (.int (1 : Int32)), .val (.int (1 : Int32)), .val (.int (2 : Int32)), .val (.ref b230), .unset] [(.int p0)])) _
        refine XS.iconst X253.here hx rfl (hb hby at_76) ?_
        show Steps p.tables e below (T253.setTop (mkF m 77 #[.val (.int p0), .val (.ref b178), .val (.int (0 : Int32)), .val (.int (0 : Int32)), .val (.int (1 : Int32)), .val (.int (1 : Int32)), .val (.int (2 : Int32)), .val (.ref b230), .unset] [(.int (4 : Int32)), (.int p0)])) _
        refine XS.iand X253.here hx rfl (hb hby at_77) rfl ?_
        show Steps p.tables e below (T253.setTop (mkF m 78 #[.val (.int p0), .val (.ref b178), .val (.int (0 : Int32)), .val (.int (0 : Int32)), .val (.int (1 : Int32)), .val (.int (1 : Int32)), .val (.int (2 : Int32)), .val (.ref b230), .unset] [(.int (p0 &&& (4 : Int32)))])) _
        exact kq)
      by_cases hc258 : (p0 &&& (4 : Int32)) = (0 : Int32)
      · have G259 : Go p e below A0 (T253.setTop (mkF m 90 #[.val (.int p0), .val (.ref b178), .val (.int (0 : Int32)), .val (.int (0 : Int32)), .val (.int (1 : Int32)), .val (.int (1 : Int32)), .val (.int (2 : Int32)), .val (.ref b230), .unset] [(.ref b178)])) := fun tq kq => G257 tq (by
          refine XS.ifYes X253.here hx rfl (pc0 := 78) (pc' := 89) rfl (hb hby at_78) rfl ((if0 _ _).trans (teq hc258).1) (by decide) (by decide) ?_
          show Steps p.tables e below (T253.setTop (mkF m 89 #[.val (.int p0), .val (.ref b178), .val (.int (0 : Int32)), .val (.int (0 : Int32)), .val (.int (1 : Int32)), .val (.int (1 : Int32)), .val (.int (2 : Int32)), .val (.ref b230), .unset] [])) _
          refine XS.aloadN X253.here hx rfl (hb hby at_89) rfl rfl ?_
          show Steps p.tables e below (T253.setTop (mkF m 90 #[.val (.int p0), .val (.ref b178), .val (.int (0 : Int32)), .val (.int (0 : Int32)), .val (.int (1 : Int32)), .val (.int (1 : Int32)), .val (.int (2 : Int32)), .val (.ref b230), .unset] [(.ref b178)])) _
          exact kq)
        have f261 := (f242.keep K239)
        obtain ⟨cq260, kq260, q260a, q260b, q260c⟩ := isOf hZ e253 f261
        obtain ⟨_, _, ⟨T260, L260, k260, n260⟩, -, X260, ⟨Lc260, hQ260, l260, y260, z260⟩, st260⟩ := X253.virtualBack hx (y := (⟨"com/example/role_delegation/roledelegation/Hierarchy", "number", "()I"⟩ : MethodName)) (z := (⟨"com/example/role_delegation/roledelegation/Hierarchy", "number", "()I"⟩ : MethodName)) hown (mvT hZ (hw _ (List.mem_of_getElem? (i := 27) rfl))) (mvT hZ (hw _ (List.mem_of_getElem? (i := 28) rfl))) (notFace_of_selects (args := #[]) (mvT hZ (hw _ (List.mem_of_getElem? (i := 30) rfl)))) (mvT hZ (hw _ (List.mem_of_getElem? (i := 30) rfl))) (mvT hZ (hw _ (List.mem_of_getElem? (i := 29) rfl))) (by decide) (backOf (W := 0) (rm5 l Z a0 hw [] b178 (3 : Int32) (0 : Int32) T239.heap n0 f254 f261 g_b178 Fn239x Fc239 ) hZ (hw _ (List.mem_of_getElem? (i := 31) rfl)) (hw _ (List.mem_of_getElem? (i := 2) rfl)) (by decide) (by decide)) q260a q260c (g := (mkF m 90 #[.val (.int p0), .val (.ref b178), .val (.int (0 : Int32)), .val (.int (0 : Int32)), .val (.int (1 : Int32)), .val (.int (1 : Int32)), .val (.int (2 : Int32)), .val (.ref b230), .unset] [(.ref b178)])) rfl (by rw [hml]; rfl) (Steps.refl _) (argsL := []) (rest := []) (lenOf pd_5 rfl) rfl (by show 2 * 0 + _ ≤ _; exact Nat.le_of_eq rfl) (hb hby at_90) (fun _ _ => ⟨rfl, e253, (by decide : 8 + 0 ≤ _), (by decide : 41 + 0 ≤ _)⟩)
        dsimp only [Pt.U, Pt.locs, Pt.cells, Pt.slots] at X260 l260 y260 z260 st260 hQ260
        obtain rfl : k260 = 8 := y260
        obtain rfl : n260 = 41 := z260
        obtain ⟨rfl, N260q, K260, Fn260, Fc260⟩ := hQ260
        have N260 : Fr n0 L260 := by rw [l260]; exact Fr.app N253 N260q
        have Fn260x : Fld Z T260.heap b178 "com/example/role_delegation/roledelegation/Hierarchy" "numbered" "I" (.int (4 : Int32)) := Fn260
        have Fc260x : Fld Z T260.heap b178 "com/example/role_delegation/roledelegation/Hierarchy" "changes" "I" (.int (0 : Int32)) := Fc260
        have G262 : Go p e below A0 (T260.setTop (mkF m 93 #[.val (.int p0), .val (.ref b178), .val (.int (0 : Int32)), .val (.int (0 : Int32)), .val (.int (1 : Int32)), .val (.int (1 : Int32)), .val (.int (2 : Int32)), .val (.ref b230), .unset] [(.int (3 : Int32))])) := fun tq kq => G259 tq (st260.trans kq)
        have G263 : Go p e below A0 (T260.setTop (mkF m 136 #[.val (.int p0), .val (.ref b178), .val (.int (0 : Int32)), .val (.int (0 : Int32)), .val (.int (1 : Int32)), .val (.int (1 : Int32)), .val (.int (2 : Int32)), .val (.int (3 : Int32)), .val (.int (3 : Int32))] [(.ref b178)])) := fun tq kq => G262 tq (by
          refine XS.istore X260.here hx rfl (hb hby at_93) rfl (l' := #[.val (.int p0), .val (.ref b178), .val (.int (0 : Int32)), .val (.int (0 : Int32)), .val (.int (1 : Int32)), .val (.int (1 : Int32)), .val (.int (2 : Int32)), .val (.int (3 : Int32)), .unset]) rfl ?_
          show Steps p.tables e below (T260.setTop (mkF m 95 #[.val (.int p0), .val (.ref b178), .val (.int (0 : Int32)), .val (.int (0 : Int32)), .val (.int (1 : Int32)), .val (.int (1 : Int32)), .val (.int (2 : Int32)), .val (.int (3 : Int32)), .unset] [])) _
          refine XS.iload X260.here hx rfl (hb hby at_95) rfl ?_
          show Steps p.tables e below (T260.setTop (mkF m 97 #[.val (.int p0), .val (.ref b178), .val (.int (0 : Int32)), .val (.int (0 : Int32)), .val (.int (1 : Int32)), .val (.int (1 : Int32)), .val (.int (2 : Int32)), .val (.int (3 : Int32)), .unset] [(.int (1 : Int32))])) _
          refine XS.ifNo X260.here hx rfl (hb hby at_97) rfl (by decide) ?_
          show Steps p.tables e below (T260.setTop (mkF m 100 #[.val (.int p0), .val (.ref b178), .val (.int (0 : Int32)), .val (.int (0 : Int32)), .val (.int (1 : Int32)), .val (.int (1 : Int32)), .val (.int (2 : Int32)), .val (.int (3 : Int32)), .unset] [])) _
          refine XS.iconst X260.here hx rfl (hb hby at_100) ?_
          show Steps p.tables e below (T260.setTop (mkF m 101 #[.val (.int p0), .val (.ref b178), .val (.int (0 : Int32)), .val (.int (0 : Int32)), .val (.int (1 : Int32)), .val (.int (1 : Int32)), .val (.int (2 : Int32)), .val (.int (3 : Int32)), .unset] [(.int (3 : Int32))])) _
          refine XS.goto X260.here hx rfl (pc0 := 101) (pc' := 105) rfl (hb hby at_101) (by decide) (by decide) ?_
          show Steps p.tables e below (T260.setTop (mkF m 105 #[.val (.int p0), .val (.ref b178), .val (.int (0 : Int32)), .val (.int (0 : Int32)), .val (.int (1 : Int32)), .val (.int (1 : Int32)), .val (.int (2 : Int32)), .val (.int (3 : Int32)), .unset] [(.int (3 : Int32))])) _
          refine XS.istore X260.here hx rfl (hb hby at_105) rfl (l' := #[.val (.int p0), .val (.ref b178), .val (.int (0 : Int32)), .val (.int (0 : Int32)), .val (.int (1 : Int32)), .val (.int (1 : Int32)), .val (.int (2 : Int32)), .val (.int (3 : Int32)), .val (.int (3 : Int32))]) rfl ?_
          show Steps p.tables e below (T260.setTop (mkF m 107 #[.val (.int p0), .val (.ref b178), .val (.int (0 : Int32)), .val (.int (0 : Int32)), .val (.int (1 : Int32)), .val (.int (1 : Int32)), .val (.int (2 : Int32)), .val (.int (3 : Int32)), .val (.int (3 : Int32))] [])) _
          refine XS.iloadN X260.here hx rfl (hb hby at_107) rfl ?_
          show Steps p.tables e below (T260.setTop (mkF m 108 #[.val (.int p0), .val (.ref b178), .val (.int (0 : Int32)), .val (.int (0 : Int32)), .val (.int (1 : Int32)), .val (.int (1 : Int32)), .val (.int (2 : Int32)), .val (.int (3 : Int32)), .val (.int (3 : Int32))] [(.int (0 : Int32))])) _
          refine XS.ifNo X260.here hx rfl (hb hby at_108) rfl (by decide) ?_
          show Steps p.tables e below (T260.setTop (mkF m 111 #[.val (.int p0), .val (.ref b178), .val (.int (0 : Int32)), .val (.int (0 : Int32)), .val (.int (1 : Int32)), .val (.int (1 : Int32)), .val (.int (2 : Int32)), .val (.int (3 : Int32)), .val (.int (3 : Int32))] [])) _
          refine XS.iload X260.here hx rfl (hb hby at_111) rfl ?_
          show Steps p.tables e below (T260.setTop (mkF m 113 #[.val (.int p0), .val (.ref b178), .val (.int (0 : Int32)), .val (.int (0 : Int32)), .val (.int (1 : Int32)), .val (.int (1 : Int32)), .val (.int (2 : Int32)), .val (.int (3 : Int32)), .val (.int (3 : Int32))] [(.int (1 : Int32))])) _
          refine XS.iconst X260.here hx rfl (hb hby at_113) ?_
          show Steps p.tables e below (T260.setTop (mkF m 114 #[.val (.int p0), .val (.ref b178), .val (.int (0 : Int32)), .val (.int (0 : Int32)), .val (.int (1 : Int32)), .val (.int (1 : Int32)), .val (.int (2 : Int32)), .val (.int (3 : Int32)), .val (.int (3 : Int32))] [(.int (1 : Int32)), (.int (1 : Int32))])) _
          refine XS.icmpNo X260.here hx rfl (hb hby at_114) rfl (by decide) ?_
          show Steps p.tables e below (T260.setTop (mkF m 117 #[.val (.int p0), .val (.ref b178), .val (.int (0 : Int32)), .val (.int (0 : Int32)), .val (.int (1 : Int32)), .val (.int (1 : Int32)), .val (.int (2 : Int32)), .val (.int (3 : Int32)), .val (.int (3 : Int32))] [])) _
          refine XS.iload X260.here hx rfl (hb hby at_117) rfl ?_
          show Steps p.tables e below (T260.setTop (mkF m 119 #[.val (.int p0), .val (.ref b178), .val (.int (0 : Int32)), .val (.int (0 : Int32)), .val (.int (1 : Int32)), .val (.int (1 : Int32)), .val (.int (2 : Int32)), .val (.int (3 : Int32)), .val (.int (3 : Int32))] [(.int (1 : Int32))])) _
          refine XS.ifNo X260.here hx rfl (hb hby at_119) rfl (by decide) ?_
          show Steps p.tables e below (T260.setTop (mkF m 122 #[.val (.int p0), .val (.ref b178), .val (.int (0 : Int32)), .val (.int (0 : Int32)), .val (.int (1 : Int32)), .val (.int (1 : Int32)), .val (.int (2 : Int32)), .val (.int (3 : Int32)), .val (.int (3 : Int32))] [])) _
          refine XS.iload X260.here hx rfl (hb hby at_122) rfl ?_
          show Steps p.tables e below (T260.setTop (mkF m 124 #[.val (.int p0), .val (.ref b178), .val (.int (0 : Int32)), .val (.int (0 : Int32)), .val (.int (1 : Int32)), .val (.int (1 : Int32)), .val (.int (2 : Int32)), .val (.int (3 : Int32)), .val (.int (3 : Int32))] [(.int (2 : Int32))])) _
          refine XS.iconst X260.here hx rfl (hb hby at_124) ?_
          show Steps p.tables e below (T260.setTop (mkF m 125 #[.val (.int p0), .val (.ref b178), .val (.int (0 : Int32)), .val (.int (0 : Int32)), .val (.int (1 : Int32)), .val (.int (1 : Int32)), .val (.int (2 : Int32)), .val (.int (3 : Int32)), .val (.int (3 : Int32))] [(.int (2 : Int32)), (.int (2 : Int32))])) _
          refine XS.icmpNo X260.here hx rfl (hb hby at_125) rfl (by decide) ?_
          show Steps p.tables e below (T260.setTop (mkF m 128 #[.val (.int p0), .val (.ref b178), .val (.int (0 : Int32)), .val (.int (0 : Int32)), .val (.int (1 : Int32)), .val (.int (1 : Int32)), .val (.int (2 : Int32)), .val (.int (3 : Int32)), .val (.int (3 : Int32))] [])) _
          refine XS.iload X260.here hx rfl (hb hby at_128) rfl ?_
          show Steps p.tables e below (T260.setTop (mkF m 130 #[.val (.int p0), .val (.ref b178), .val (.int (0 : Int32)), .val (.int (0 : Int32)), .val (.int (1 : Int32)), .val (.int (1 : Int32)), .val (.int (2 : Int32)), .val (.int (3 : Int32)), .val (.int (3 : Int32))] [(.int (3 : Int32))])) _
          refine XS.iload X260.here hx rfl (hb hby at_130) rfl ?_
          show Steps p.tables e below (T260.setTop (mkF m 132 #[.val (.int p0), .val (.ref b178), .val (.int (0 : Int32)), .val (.int (0 : Int32)), .val (.int (1 : Int32)), .val (.int (1 : Int32)), .val (.int (2 : Int32)), .val (.int (3 : Int32)), .val (.int (3 : Int32))] [(.int (3 : Int32)), (.int (3 : Int32))])) _
          refine XS.icmpNo X260.here hx rfl (hb hby at_132) rfl (by decide) ?_
          show Steps p.tables e below (T260.setTop (mkF m 135 #[.val (.int p0), .val (.ref b178), .val (.int (0 : Int32)), .val (.int (0 : Int32)), .val (.int (1 : Int32)), .val (.int (1 : Int32)), .val (.int (2 : Int32)), .val (.int (3 : Int32)), .val (.int (3 : Int32))] [])) _
          refine XS.aloadN X260.here hx rfl (hb hby at_135) rfl rfl ?_
          show Steps p.tables e below (T260.setTop (mkF m 136 #[.val (.int p0), .val (.ref b178), .val (.int (0 : Int32)), .val (.int (0 : Int32)), .val (.int (1 : Int32)), .val (.int (1 : Int32)), .val (.int (2 : Int32)), .val (.int (3 : Int32)), .val (.int (3 : Int32))] [(.ref b178)])) _
          exact kq)
        have f265 := (Nat.le_trans f254 K260.1)
        have f266 := (f261.keep K260)
        obtain ⟨cq264, kq264, q264a, q264b, q264c⟩ := isOf hZ rfl f266
        obtain ⟨_, _, ⟨T264, L264, k264, n264⟩, -, X264, ⟨Lc264, hQ264, l264, y264, z264⟩, st264⟩ := X260.virtualBack hx (y := (⟨"com/example/role_delegation/roledelegation/Hierarchy", "changes", "()I"⟩ : MethodName)) (z := (⟨"com/example/role_delegation/roledelegation/Hierarchy", "changes", "()I"⟩ : MethodName)) hown (mvT hZ (hw _ (List.mem_of_getElem? (i := 34) rfl))) (mvT hZ (hw _ (List.mem_of_getElem? (i := 35) rfl))) (notFace_of_selects (args := #[]) (mvT hZ (hw _ (List.mem_of_getElem? (i := 37) rfl)))) (mvT hZ (hw _ (List.mem_of_getElem? (i := 37) rfl))) (mvT hZ (hw _ (List.mem_of_getElem? (i := 36) rfl))) (by decide) (backOf (W := 0) (rm6 l Z a0 hw [] b178 (4 : Int32) (0 : Int32) T260.heap n0 f265 f266 g_b178 Fn260x Fc260x) hZ (hw _ (List.mem_of_getElem? (i := 38) rfl)) (hw _ (List.mem_of_getElem? (i := 2) rfl)) (by decide) (by decide)) q264a q264c (g := (mkF m 136 #[.val (.int p0), .val (.ref b178), .val (.int (0 : Int32)), .val (.int (0 : Int32)), .val (.int (1 : Int32)), .val (.int (1 : Int32)), .val (.int (2 : Int32)), .val (.int (3 : Int32)), .val (.int (3 : Int32))] [(.ref b178)])) rfl (by rw [hml]; rfl) (Steps.refl _) (argsL := []) (rest := []) (lenOf pd_5 rfl) rfl (by show 2 * 0 + _ ≤ _; exact Nat.le_of_eq rfl) (hb hby at_136) (fun _ _ => ⟨rfl, rfl, (by decide : 8 + 0 ≤ _), (by decide : 41 + 0 ≤ _)⟩)
        dsimp only [Pt.U, Pt.locs, Pt.cells, Pt.slots] at X264 l264 y264 z264 st264 hQ264
        obtain rfl : k264 = 8 := y264
        obtain rfl : n264 = 41 := z264
        obtain ⟨rfl, N264q, e264⟩ := hQ264
        have N264 : Fr n0 L264 := by rw [l264]; exact Fr.app N260 N264q
        have G267 : Go p e below A0 (T264.setTop (mkF m 139 #[.val (.int p0), .val (.ref b178), .val (.int (0 : Int32)), .val (.int (0 : Int32)), .val (.int (1 : Int32)), .val (.int (1 : Int32)), .val (.int (2 : Int32)), .val (.int (3 : Int32)), .val (.int (3 : Int32))] [(.int (0 : Int32))])) := fun tq kq => G263 tq (st264.trans kq)
        have G268 : Go p e below A0 (T264.setTop (mkF m 148 #[.val (.int p0), .val (.ref b178), .val (.int (0 : Int32)), .val (.int (0 : Int32)), .val (.int (1 : Int32)), .val (.int (1 : Int32)), .val (.int (2 : Int32)), .val (.int (3 : Int32)), .val (.int (3 : Int32))] [(.int (1 : Int32))])) := fun tq kq => G267 tq (by
          refine XS.iloadN X264.here hx rfl (hb hby at_139) rfl ?_
          show Steps p.tables e below (T264.setTop (mkF m 140 #[.val (.int p0), .val (.ref b178), .val (.int (0 : Int32)), .val (.int (0 : Int32)), .val (.int (1 : Int32)), .val (.int (1 : Int32)), .val (.int (2 : Int32)), .val (.int (3 : Int32)), .val (.int (3 : Int32))] [(.int (0 : Int32)), (.int (0 : Int32))])) _
          refine XS.icmpNo X264.here hx rfl (hb hby at_140) rfl (by decide) ?_
          show Steps p.tables e below (T264.setTop (mkF m 143 #[.val (.int p0), .val (.ref b178), .val (.int (0 : Int32)), .val (.int (0 : Int32)), .val (.int (1 : Int32)), .val (.int (1 : Int32)), .val (.int (2 : Int32)), .val (.int (3 : Int32)), .val (.int (3 : Int32))] [])) _
          refine XS.iconst X264.here hx rfl (hb hby at_143) ?_
          show Steps p.tables e below (T264.setTop (mkF m 144 #[.val (.int p0), .val (.ref b178), .val (.int (0 : Int32)), .val (.int (0 : Int32)), .val (.int (1 : Int32)), .val (.int (1 : Int32)), .val (.int (2 : Int32)), .val (.int (3 : Int32)), .val (.int (3 : Int32))] [(.int (1 : Int32))])) _
          refine XS.goto X264.here hx rfl (pc0 := 144) (pc' := 148) rfl (hb hby at_144) (by decide) (by decide) ?_
          show Steps p.tables e below (T264.setTop (mkF m 148 #[.val (.int p0), .val (.ref b178), .val (.int (0 : Int32)), .val (.int (0 : Int32)), .val (.int (1 : Int32)), .val (.int (1 : Int32)), .val (.int (2 : Int32)), .val (.int (3 : Int32)), .val (.int (3 : Int32))] [(.int (1 : Int32))])) _
          exact kq)
        have f269 := (Nat.le_trans (Nat.le_trans hk235 K239.1) K260.1)
        obtain ⟨fs, hr, hrun, hended, hRW⟩ := X264.leaveW (s := s) (vm₁ := T235.vm) hS (by rw [e264]; exact f269) (v := some (.int (nar .boolean (1 : Int32)))) (fun h => by rw [Bd.returns] at h; cases h)
        refine ⟨_, _, (by rw [← hA0]; exact G268 _ (retN X264 hx (t := .boolean) Bd.returns (by simp) (hb hby at_148) hr)), hrun, hended, _, _, rfl, ?_, hRW.1, hRW.2.1, hRW.2.2.1, hRW.2.2.2.mono (by decide) (by decide)⟩
        exact ⟨rfl, N264⟩
      · have G270 : Go p e below A0 (T253.setTop (mkF m 82 #[.val (.int p0), .val (.ref b178), .val (.int (0 : Int32)), .val (.int (0 : Int32)), .val (.int (1 : Int32)), .val (.int (1 : Int32)), .val (.int (2 : Int32)), .val (.ref b230), .unset] [(.ref b178)])) := fun tq kq => G257 tq (by
          refine XS.ifNo X253.here hx rfl (hb hby at_78) rfl ((if0 _ _).trans (feq hc258).1) ?_
          show Steps p.tables e below (T253.setTop (mkF m 81 #[.val (.int p0), .val (.ref b178), .val (.int (0 : Int32)), .val (.int (0 : Int32)), .val (.int (1 : Int32)), .val (.int (1 : Int32)), .val (.int (2 : Int32)), .val (.ref b230), .unset] [])) _
          refine XS.aloadN X253.here hx rfl (hb hby at_81) rfl rfl ?_
          show Steps p.tables e below (T253.setTop (mkF m 82 #[.val (.int p0), .val (.ref b178), .val (.int (0 : Int32)), .val (.int (0 : Int32)), .val (.int (1 : Int32)), .val (.int (1 : Int32)), .val (.int (2 : Int32)), .val (.ref b230), .unset] [(.ref b178)])) _
          exact kq)
        have f272 := (f242.keep K239)
        obtain ⟨cq271, kq271, q271a, q271b, q271c⟩ := isOf hZ e253 f272
        obtain ⟨_, _, ⟨T271, L271, k271, n271⟩, -, X271, ⟨Lc271, hQ271, l271, y271, z271⟩, st271⟩ := X253.virtualBack hx (y := (⟨"com/example/role_delegation/roledelegation/Hierarchy", "changed", "()V"⟩ : MethodName)) (z := (⟨"com/example/role_delegation/roledelegation/Hierarchy", "changed", "()V"⟩ : MethodName)) hown (mvT hZ (hw _ (List.mem_of_getElem? (i := 41) rfl))) (mvT hZ (hw _ (List.mem_of_getElem? (i := 42) rfl))) (notFace_of_selects (args := #[]) (mvT hZ (hw _ (List.mem_of_getElem? (i := 44) rfl)))) (mvT hZ (hw _ (List.mem_of_getElem? (i := 44) rfl))) (mvT hZ (hw _ (List.mem_of_getElem? (i := 43) rfl))) (by decide) (backOf (W := 0) (rm7 l Z a0 hw [] b178 (3 : Int32) (0 : Int32) T239.heap n0 f254 f272 g_b178 Fn239x Fc239 ) hZ (hw _ (List.mem_of_getElem? (i := 45) rfl)) (hw _ (List.mem_of_getElem? (i := 2) rfl)) (by decide) (by decide)) q271a q271c (g := (mkF m 82 #[.val (.int p0), .val (.ref b178), .val (.int (0 : Int32)), .val (.int (0 : Int32)), .val (.int (1 : Int32)), .val (.int (1 : Int32)), .val (.int (2 : Int32)), .val (.ref b230), .unset] [(.ref b178)])) rfl (by rw [hml]; rfl) (Steps.refl _) (argsL := []) (rest := []) (lenOf pd_0 rfl) rfl (by show 2 * 0 + _ ≤ _; exact Nat.le_of_eq rfl) (hb hby at_82) (fun _ _ => ⟨rfl, e253, (by decide : 8 + 0 ≤ _), (by decide : 41 + 0 ≤ _)⟩)
        dsimp only [Pt.U, Pt.locs, Pt.cells, Pt.slots] at X271 l271 y271 z271 st271 hQ271
        obtain rfl : k271 = 8 := y271
        obtain rfl : n271 = 41 := z271
        obtain ⟨rfl, N271q, K271, Fn271, Fc271⟩ := hQ271
        have N271 : Fr n0 L271 := by rw [l271]; exact Fr.app N253 N271q
        have Fn271x : Fld Z T271.heap b178 "com/example/role_delegation/roledelegation/Hierarchy" "numbered" "I" (.int (3 : Int32)) := Fn271
        have Fc271x : Fld Z T271.heap b178 "com/example/role_delegation/roledelegation/Hierarchy" "changes" "I" (.int (1 : Int32)) := Fc271
        have G273 : Go p e below A0 (T271.setTop (mkF m 85 #[.val (.int p0), .val (.ref b178), .val (.int (0 : Int32)), .val (.int (0 : Int32)), .val (.int (1 : Int32)), .val (.int (1 : Int32)), .val (.int (2 : Int32)), .val (.ref b230), .unset] [])) := fun tq kq => G270 tq (st271.trans kq)
        have G274 : Go p e below A0 (T271.setTop (mkF m 90 #[.val (.int p0), .val (.ref b178), .val (.int (1 : Int32)), .val (.int (0 : Int32)), .val (.int (1 : Int32)), .val (.int (1 : Int32)), .val (.int (2 : Int32)), .val (.ref b230), .unset] [(.ref b178)])) := fun tq kq => G273 tq (by
          refine XS.iloadN X271.here hx rfl (hb hby at_85) rfl ?_
          show Steps p.tables e below (T271.setTop (mkF m 86 #[.val (.int p0), .val (.ref b178), .val (.int (0 : Int32)), .val (.int (0 : Int32)), .val (.int (1 : Int32)), .val (.int (1 : Int32)), .val (.int (2 : Int32)), .val (.ref b230), .unset] [(.int (0 : Int32))])) _
          refine XS.iconst X271.here hx rfl (hb hby at_86) ?_
          show Steps p.tables e below (T271.setTop (mkF m 87 #[.val (.int p0), .val (.ref b178), .val (.int (0 : Int32)), .val (.int (0 : Int32)), .val (.int (1 : Int32)), .val (.int (1 : Int32)), .val (.int (2 : Int32)), .val (.ref b230), .unset] [(.int (1 : Int32)), (.int (0 : Int32))])) _
          refine XS.iadd X271.here hx rfl (hb hby at_87) rfl ?_
          show Steps p.tables e below (T271.setTop (mkF m 88 #[.val (.int p0), .val (.ref b178), .val (.int (0 : Int32)), .val (.int (0 : Int32)), .val (.int (1 : Int32)), .val (.int (1 : Int32)), .val (.int (2 : Int32)), .val (.ref b230), .unset] [(.int ((0 : Int32) + (1 : Int32)))])) _
          rw [show ((0 : Int32) + (1 : Int32)) = (1 : Int32) from (by decide : ((0 : Int32) + (1 : Int32)) = (1 : Int32))]
          show Steps p.tables e below (T271.setTop (mkF m 88 #[.val (.int p0), .val (.ref b178), .val (.int (0 : Int32)), .val (.int (0 : Int32)), .val (.int (1 : Int32)), .val (.int (1 : Int32)), .val (.int (2 : Int32)), .val (.ref b230), .unset] [(.int (1 : Int32))])) _
          refine XS.istoreN X271.here hx rfl (hb hby at_88) rfl (l' := #[.val (.int p0), .val (.ref b178), .val (.int (1 : Int32)), .val (.int (0 : Int32)), .val (.int (1 : Int32)), .val (.int (1 : Int32)), .val (.int (2 : Int32)), .val (.ref b230), .unset]) rfl ?_
          show Steps p.tables e below (T271.setTop (mkF m 89 #[.val (.int p0), .val (.ref b178), .val (.int (1 : Int32)), .val (.int (0 : Int32)), .val (.int (1 : Int32)), .val (.int (1 : Int32)), .val (.int (2 : Int32)), .val (.ref b230), .unset] [])) _
          refine XS.aloadN X271.here hx rfl (hb hby at_89) rfl rfl ?_
          show Steps p.tables e below (T271.setTop (mkF m 90 #[.val (.int p0), .val (.ref b178), .val (.int (1 : Int32)), .val (.int (0 : Int32)), .val (.int (1 : Int32)), .val (.int (1 : Int32)), .val (.int (2 : Int32)), .val (.ref b230), .unset] [(.ref b178)])) _
          exact kq)
        have f276 := (Nat.le_trans f254 K271.1)
        have f277 := (f272.keep K271)
        obtain ⟨cq275, kq275, q275a, q275b, q275c⟩ := isOf hZ rfl f277
        obtain ⟨_, _, ⟨T275, L275, k275, n275⟩, -, X275, ⟨Lc275, hQ275, l275, y275, z275⟩, st275⟩ := X271.virtualBack hx (y := (⟨"com/example/role_delegation/roledelegation/Hierarchy", "number", "()I"⟩ : MethodName)) (z := (⟨"com/example/role_delegation/roledelegation/Hierarchy", "number", "()I"⟩ : MethodName)) hown (mvT hZ (hw _ (List.mem_of_getElem? (i := 27) rfl))) (mvT hZ (hw _ (List.mem_of_getElem? (i := 28) rfl))) (notFace_of_selects (args := #[]) (mvT hZ (hw _ (List.mem_of_getElem? (i := 30) rfl)))) (mvT hZ (hw _ (List.mem_of_getElem? (i := 30) rfl))) (mvT hZ (hw _ (List.mem_of_getElem? (i := 29) rfl))) (by decide) (backOf (W := 0) (rm5 l Z a0 hw [] b178 (3 : Int32) (1 : Int32) T271.heap n0 f276 f277 g_b178 Fn271x Fc271x ) hZ (hw _ (List.mem_of_getElem? (i := 31) rfl)) (hw _ (List.mem_of_getElem? (i := 2) rfl)) (by decide) (by decide)) q275a q275c (g := (mkF m 90 #[.val (.int p0), .val (.ref b178), .val (.int (1 : Int32)), .val (.int (0 : Int32)), .val (.int (1 : Int32)), .val (.int (1 : Int32)), .val (.int (2 : Int32)), .val (.ref b230), .unset] [(.ref b178)])) rfl (by rw [hml]; rfl) (Steps.refl _) (argsL := []) (rest := []) (lenOf pd_5 rfl) rfl (by show 2 * 0 + _ ≤ _; exact Nat.le_of_eq rfl) (hb hby at_90) (fun _ _ => ⟨rfl, rfl, (by decide : 8 + 0 ≤ _), (by decide : 41 + 0 ≤ _)⟩)
        dsimp only [Pt.U, Pt.locs, Pt.cells, Pt.slots] at X275 l275 y275 z275 st275 hQ275
        obtain rfl : k275 = 8 := y275
        obtain rfl : n275 = 41 := z275
        obtain ⟨rfl, N275q, K275, Fn275, Fc275⟩ := hQ275
        have N275 : Fr n0 L275 := by rw [l275]; exact Fr.app N271 N275q
        have Fn275x : Fld Z T275.heap b178 "com/example/role_delegation/roledelegation/Hierarchy" "numbered" "I" (.int (4 : Int32)) := Fn275
        have Fc275x : Fld Z T275.heap b178 "com/example/role_delegation/roledelegation/Hierarchy" "changes" "I" (.int (1 : Int32)) := Fc275
        have G278 : Go p e below A0 (T275.setTop (mkF m 93 #[.val (.int p0), .val (.ref b178), .val (.int (1 : Int32)), .val (.int (0 : Int32)), .val (.int (1 : Int32)), .val (.int (1 : Int32)), .val (.int (2 : Int32)), .val (.ref b230), .unset] [(.int (3 : Int32))])) := fun tq kq => G274 tq (st275.trans kq)
        have G279 : Go p e below A0 (T275.setTop (mkF m 136 #[.val (.int p0), .val (.ref b178), .val (.int (1 : Int32)), .val (.int (0 : Int32)), .val (.int (1 : Int32)), .val (.int (1 : Int32)), .val (.int (2 : Int32)), .val (.int (3 : Int32)), .val (.int (3 : Int32))] [(.ref b178)])) := fun tq kq => G278 tq (by
          refine XS.istore X275.here hx rfl (hb hby at_93) rfl (l' := #[.val (.int p0), .val (.ref b178), .val (.int (1 : Int32)), .val (.int (0 : Int32)), .val (.int (1 : Int32)), .val (.int (1 : Int32)), .val (.int (2 : Int32)), .val (.int (3 : Int32)), .unset]) rfl ?_
          show Steps p.tables e below (T275.setTop (mkF m 95 #[.val (.int p0), .val (.ref b178), .val (.int (1 : Int32)), .val (.int (0 : Int32)), .val (.int (1 : Int32)), .val (.int (1 : Int32)), .val (.int (2 : Int32)), .val (.int (3 : Int32)), .unset] [])) _
          refine XS.iload X275.here hx rfl (hb hby at_95) rfl ?_
          show Steps p.tables e below (T275.setTop (mkF m 97 #[.val (.int p0), .val (.ref b178), .val (.int (1 : Int32)), .val (.int (0 : Int32)), .val (.int (1 : Int32)), .val (.int (1 : Int32)), .val (.int (2 : Int32)), .val (.int (3 : Int32)), .unset] [(.int (1 : Int32))])) _
          refine XS.ifNo X275.here hx rfl (hb hby at_97) rfl (by decide) ?_
          show Steps p.tables e below (T275.setTop (mkF m 100 #[.val (.int p0), .val (.ref b178), .val (.int (1 : Int32)), .val (.int (0 : Int32)), .val (.int (1 : Int32)), .val (.int (1 : Int32)), .val (.int (2 : Int32)), .val (.int (3 : Int32)), .unset] [])) _
          refine XS.iconst X275.here hx rfl (hb hby at_100) ?_
          show Steps p.tables e below (T275.setTop (mkF m 101 #[.val (.int p0), .val (.ref b178), .val (.int (1 : Int32)), .val (.int (0 : Int32)), .val (.int (1 : Int32)), .val (.int (1 : Int32)), .val (.int (2 : Int32)), .val (.int (3 : Int32)), .unset] [(.int (3 : Int32))])) _
          refine XS.goto X275.here hx rfl (pc0 := 101) (pc' := 105) rfl (hb hby at_101) (by decide) (by decide) ?_
          show Steps p.tables e below (T275.setTop (mkF m 105 #[.val (.int p0), .val (.ref b178), .val (.int (1 : Int32)), .val (.int (0 : Int32)), .val (.int (1 : Int32)), .val (.int (1 : Int32)), .val (.int (2 : Int32)), .val (.int (3 : Int32)), .unset] [(.int (3 : Int32))])) _
          refine XS.istore X275.here hx rfl (hb hby at_105) rfl (l' := #[.val (.int p0), .val (.ref b178), .val (.int (1 : Int32)), .val (.int (0 : Int32)), .val (.int (1 : Int32)), .val (.int (1 : Int32)), .val (.int (2 : Int32)), .val (.int (3 : Int32)), .val (.int (3 : Int32))]) rfl ?_
          show Steps p.tables e below (T275.setTop (mkF m 107 #[.val (.int p0), .val (.ref b178), .val (.int (1 : Int32)), .val (.int (0 : Int32)), .val (.int (1 : Int32)), .val (.int (1 : Int32)), .val (.int (2 : Int32)), .val (.int (3 : Int32)), .val (.int (3 : Int32))] [])) _
          refine XS.iloadN X275.here hx rfl (hb hby at_107) rfl ?_
          show Steps p.tables e below (T275.setTop (mkF m 108 #[.val (.int p0), .val (.ref b178), .val (.int (1 : Int32)), .val (.int (0 : Int32)), .val (.int (1 : Int32)), .val (.int (1 : Int32)), .val (.int (2 : Int32)), .val (.int (3 : Int32)), .val (.int (3 : Int32))] [(.int (0 : Int32))])) _
          refine XS.ifNo X275.here hx rfl (hb hby at_108) rfl (by decide) ?_
          show Steps p.tables e below (T275.setTop (mkF m 111 #[.val (.int p0), .val (.ref b178), .val (.int (1 : Int32)), .val (.int (0 : Int32)), .val (.int (1 : Int32)), .val (.int (1 : Int32)), .val (.int (2 : Int32)), .val (.int (3 : Int32)), .val (.int (3 : Int32))] [])) _
          refine XS.iload X275.here hx rfl (hb hby at_111) rfl ?_
          show Steps p.tables e below (T275.setTop (mkF m 113 #[.val (.int p0), .val (.ref b178), .val (.int (1 : Int32)), .val (.int (0 : Int32)), .val (.int (1 : Int32)), .val (.int (1 : Int32)), .val (.int (2 : Int32)), .val (.int (3 : Int32)), .val (.int (3 : Int32))] [(.int (1 : Int32))])) _
          refine XS.iconst X275.here hx rfl (hb hby at_113) ?_
          show Steps p.tables e below (T275.setTop (mkF m 114 #[.val (.int p0), .val (.ref b178), .val (.int (1 : Int32)), .val (.int (0 : Int32)), .val (.int (1 : Int32)), .val (.int (1 : Int32)), .val (.int (2 : Int32)), .val (.int (3 : Int32)), .val (.int (3 : Int32))] [(.int (1 : Int32)), (.int (1 : Int32))])) _
          refine XS.icmpNo X275.here hx rfl (hb hby at_114) rfl (by decide) ?_
          show Steps p.tables e below (T275.setTop (mkF m 117 #[.val (.int p0), .val (.ref b178), .val (.int (1 : Int32)), .val (.int (0 : Int32)), .val (.int (1 : Int32)), .val (.int (1 : Int32)), .val (.int (2 : Int32)), .val (.int (3 : Int32)), .val (.int (3 : Int32))] [])) _
          refine XS.iload X275.here hx rfl (hb hby at_117) rfl ?_
          show Steps p.tables e below (T275.setTop (mkF m 119 #[.val (.int p0), .val (.ref b178), .val (.int (1 : Int32)), .val (.int (0 : Int32)), .val (.int (1 : Int32)), .val (.int (1 : Int32)), .val (.int (2 : Int32)), .val (.int (3 : Int32)), .val (.int (3 : Int32))] [(.int (1 : Int32))])) _
          refine XS.ifNo X275.here hx rfl (hb hby at_119) rfl (by decide) ?_
          show Steps p.tables e below (T275.setTop (mkF m 122 #[.val (.int p0), .val (.ref b178), .val (.int (1 : Int32)), .val (.int (0 : Int32)), .val (.int (1 : Int32)), .val (.int (1 : Int32)), .val (.int (2 : Int32)), .val (.int (3 : Int32)), .val (.int (3 : Int32))] [])) _
          refine XS.iload X275.here hx rfl (hb hby at_122) rfl ?_
          show Steps p.tables e below (T275.setTop (mkF m 124 #[.val (.int p0), .val (.ref b178), .val (.int (1 : Int32)), .val (.int (0 : Int32)), .val (.int (1 : Int32)), .val (.int (1 : Int32)), .val (.int (2 : Int32)), .val (.int (3 : Int32)), .val (.int (3 : Int32))] [(.int (2 : Int32))])) _
          refine XS.iconst X275.here hx rfl (hb hby at_124) ?_
          show Steps p.tables e below (T275.setTop (mkF m 125 #[.val (.int p0), .val (.ref b178), .val (.int (1 : Int32)), .val (.int (0 : Int32)), .val (.int (1 : Int32)), .val (.int (1 : Int32)), .val (.int (2 : Int32)), .val (.int (3 : Int32)), .val (.int (3 : Int32))] [(.int (2 : Int32)), (.int (2 : Int32))])) _
          refine XS.icmpNo X275.here hx rfl (hb hby at_125) rfl (by decide) ?_
          show Steps p.tables e below (T275.setTop (mkF m 128 #[.val (.int p0), .val (.ref b178), .val (.int (1 : Int32)), .val (.int (0 : Int32)), .val (.int (1 : Int32)), .val (.int (1 : Int32)), .val (.int (2 : Int32)), .val (.int (3 : Int32)), .val (.int (3 : Int32))] [])) _
          refine XS.iload X275.here hx rfl (hb hby at_128) rfl ?_
          show Steps p.tables e below (T275.setTop (mkF m 130 #[.val (.int p0), .val (.ref b178), .val (.int (1 : Int32)), .val (.int (0 : Int32)), .val (.int (1 : Int32)), .val (.int (1 : Int32)), .val (.int (2 : Int32)), .val (.int (3 : Int32)), .val (.int (3 : Int32))] [(.int (3 : Int32))])) _
          refine XS.iload X275.here hx rfl (hb hby at_130) rfl ?_
          show Steps p.tables e below (T275.setTop (mkF m 132 #[.val (.int p0), .val (.ref b178), .val (.int (1 : Int32)), .val (.int (0 : Int32)), .val (.int (1 : Int32)), .val (.int (1 : Int32)), .val (.int (2 : Int32)), .val (.int (3 : Int32)), .val (.int (3 : Int32))] [(.int (3 : Int32)), (.int (3 : Int32))])) _
          refine XS.icmpNo X275.here hx rfl (hb hby at_132) rfl (by decide) ?_
          show Steps p.tables e below (T275.setTop (mkF m 135 #[.val (.int p0), .val (.ref b178), .val (.int (1 : Int32)), .val (.int (0 : Int32)), .val (.int (1 : Int32)), .val (.int (1 : Int32)), .val (.int (2 : Int32)), .val (.int (3 : Int32)), .val (.int (3 : Int32))] [])) _
          refine XS.aloadN X275.here hx rfl (hb hby at_135) rfl rfl ?_
          show Steps p.tables e below (T275.setTop (mkF m 136 #[.val (.int p0), .val (.ref b178), .val (.int (1 : Int32)), .val (.int (0 : Int32)), .val (.int (1 : Int32)), .val (.int (1 : Int32)), .val (.int (2 : Int32)), .val (.int (3 : Int32)), .val (.int (3 : Int32))] [(.ref b178)])) _
          exact kq)
        have f281 := (Nat.le_trans f276 K275.1)
        have f282 := (f277.keep K275)
        obtain ⟨cq280, kq280, q280a, q280b, q280c⟩ := isOf hZ rfl f282
        obtain ⟨_, _, ⟨T280, L280, k280, n280⟩, -, X280, ⟨Lc280, hQ280, l280, y280, z280⟩, st280⟩ := X275.virtualBack hx (y := (⟨"com/example/role_delegation/roledelegation/Hierarchy", "changes", "()I"⟩ : MethodName)) (z := (⟨"com/example/role_delegation/roledelegation/Hierarchy", "changes", "()I"⟩ : MethodName)) hown (mvT hZ (hw _ (List.mem_of_getElem? (i := 34) rfl))) (mvT hZ (hw _ (List.mem_of_getElem? (i := 35) rfl))) (notFace_of_selects (args := #[]) (mvT hZ (hw _ (List.mem_of_getElem? (i := 37) rfl)))) (mvT hZ (hw _ (List.mem_of_getElem? (i := 37) rfl))) (mvT hZ (hw _ (List.mem_of_getElem? (i := 36) rfl))) (by decide) (backOf (W := 0) (rm6 l Z a0 hw [] b178 (4 : Int32) (1 : Int32) T275.heap n0 f281 f282 g_b178 Fn275x Fc275x) hZ (hw _ (List.mem_of_getElem? (i := 38) rfl)) (hw _ (List.mem_of_getElem? (i := 2) rfl)) (by decide) (by decide)) q280a q280c (g := (mkF m 136 #[.val (.int p0), .val (.ref b178), .val (.int (1 : Int32)), .val (.int (0 : Int32)), .val (.int (1 : Int32)), .val (.int (1 : Int32)), .val (.int (2 : Int32)), .val (.int (3 : Int32)), .val (.int (3 : Int32))] [(.ref b178)])) rfl (by rw [hml]; rfl) (Steps.refl _) (argsL := []) (rest := []) (lenOf pd_5 rfl) rfl (by show 2 * 0 + _ ≤ _; exact Nat.le_of_eq rfl) (hb hby at_136) (fun _ _ => ⟨rfl, rfl, (by decide : 8 + 0 ≤ _), (by decide : 41 + 0 ≤ _)⟩)
        dsimp only [Pt.U, Pt.locs, Pt.cells, Pt.slots] at X280 l280 y280 z280 st280 hQ280
        obtain rfl : k280 = 8 := y280
        obtain rfl : n280 = 41 := z280
        obtain ⟨rfl, N280q, e280⟩ := hQ280
        have N280 : Fr n0 L280 := by rw [l280]; exact Fr.app N275 N280q
        have G283 : Go p e below A0 (T280.setTop (mkF m 139 #[.val (.int p0), .val (.ref b178), .val (.int (1 : Int32)), .val (.int (0 : Int32)), .val (.int (1 : Int32)), .val (.int (1 : Int32)), .val (.int (2 : Int32)), .val (.int (3 : Int32)), .val (.int (3 : Int32))] [(.int (1 : Int32))])) := fun tq kq => G279 tq (st280.trans kq)
        have G284 : Go p e below A0 (T280.setTop (mkF m 148 #[.val (.int p0), .val (.ref b178), .val (.int (1 : Int32)), .val (.int (0 : Int32)), .val (.int (1 : Int32)), .val (.int (1 : Int32)), .val (.int (2 : Int32)), .val (.int (3 : Int32)), .val (.int (3 : Int32))] [(.int (1 : Int32))])) := fun tq kq => G283 tq (by
          refine XS.iloadN X280.here hx rfl (hb hby at_139) rfl ?_
          show Steps p.tables e below (T280.setTop (mkF m 140 #[.val (.int p0), .val (.ref b178), .val (.int (1 : Int32)), .val (.int (0 : Int32)), .val (.int (1 : Int32)), .val (.int (1 : Int32)), .val (.int (2 : Int32)), .val (.int (3 : Int32)), .val (.int (3 : Int32))] [(.int (1 : Int32)), (.int (1 : Int32))])) _
          refine XS.icmpNo X280.here hx rfl (hb hby at_140) rfl (by decide) ?_
          show Steps p.tables e below (T280.setTop (mkF m 143 #[.val (.int p0), .val (.ref b178), .val (.int (1 : Int32)), .val (.int (0 : Int32)), .val (.int (1 : Int32)), .val (.int (1 : Int32)), .val (.int (2 : Int32)), .val (.int (3 : Int32)), .val (.int (3 : Int32))] [])) _
          refine XS.iconst X280.here hx rfl (hb hby at_143) ?_
          show Steps p.tables e below (T280.setTop (mkF m 144 #[.val (.int p0), .val (.ref b178), .val (.int (1 : Int32)), .val (.int (0 : Int32)), .val (.int (1 : Int32)), .val (.int (1 : Int32)), .val (.int (2 : Int32)), .val (.int (3 : Int32)), .val (.int (3 : Int32))] [(.int (1 : Int32))])) _
          refine XS.goto X280.here hx rfl (pc0 := 144) (pc' := 148) rfl (hb hby at_144) (by decide) (by decide) ?_
          show Steps p.tables e below (T280.setTop (mkF m 148 #[.val (.int p0), .val (.ref b178), .val (.int (1 : Int32)), .val (.int (0 : Int32)), .val (.int (1 : Int32)), .val (.int (1 : Int32)), .val (.int (2 : Int32)), .val (.int (3 : Int32)), .val (.int (3 : Int32))] [(.int (1 : Int32))])) _
          exact kq)
        have f285 := (Nat.le_trans (Nat.le_trans (Nat.le_trans hk235 K239.1) K271.1) K275.1)
        obtain ⟨fs, hr, hrun, hended, hRW⟩ := X280.leaveW (s := s) (vm₁ := T235.vm) hS (by rw [e280]; exact f285) (v := some (.int (nar .boolean (1 : Int32)))) (fun h => by rw [Bd.returns] at h; cases h)
        refine ⟨_, _, (by rw [← hA0]; exact G284 _ (retN X280 hx (t := .boolean) Bd.returns (by simp) (hb hby at_148) hr)), hrun, hended, _, _, rfl, ?_, hRW.1, hRW.2.1, hRW.2.2.1, hRW.2.2.2.mono (by decide) (by decide)⟩
        exact ⟨rfl, N280⟩
  · have G286 : Go p e below A0 (T181.setTop (mkF m 17 #[.val (.int p0), .val (.ref b178), .val (.int (0 : Int32)), .unset, .unset, .unset, .unset, .unset, .unset] [(.ref b178)])) := fun tq kq => G184 tq (by
      refine XS.ifNo X181.here hx rfl (hb hby at_13) rfl ((if0 _ _).trans (feq hc185).1) ?_
      show Steps p.tables e below (T181.setTop (mkF m 16 #[.val (.int p0), .val (.ref b178), .val (.int (0 : Int32)), .unset, .unset, .unset, .unset, .unset, .unset] [])) _
      refine XS.aloadN X181.here hx rfl (hb hby at_16) rfl rfl ?_
      show Steps p.tables e below (T181.setTop (mkF m 17 #[.val (.int p0), .val (.ref b178), .val (.int (0 : Int32)), .unset, .unset, .unset, .unset, .unset, .unset] [(.ref b178)])) _
      exact kq)
    have f288 := (Nat.le_trans f182 K181.1)
    have f289 := (A178.keep K181)
    obtain ⟨cq287, kq287, q287a, q287b, q287c⟩ := isOf hZ rfl f289
    obtain ⟨_, _, ⟨T287, L287, k287, n287⟩, -, X287, ⟨Lc287, hQ287, l287, y287, z287⟩, st287⟩ := X181.virtualBack hx (y := (⟨"com/example/role_delegation/roledelegation/Hierarchy", "changed", "()V"⟩ : MethodName)) (z := (⟨"com/example/role_delegation/roledelegation/Hierarchy", "changed", "()V"⟩ : MethodName)) hown (mvT hZ (hw _ (List.mem_of_getElem? (i := 41) rfl))) (mvT hZ (hw _ (List.mem_of_getElem? (i := 42) rfl))) (notFace_of_selects (args := #[]) (mvT hZ (hw _ (List.mem_of_getElem? (i := 44) rfl)))) (mvT hZ (hw _ (List.mem_of_getElem? (i := 44) rfl))) (mvT hZ (hw _ (List.mem_of_getElem? (i := 43) rfl))) (by decide) (backOf (W := 0) (rm7 l Z a0 hw [] b178 (0 : Int32) (0 : Int32) T181.heap n0 f288 f289 g_b178 Fn181x Fc181x ) hZ (hw _ (List.mem_of_getElem? (i := 45) rfl)) (hw _ (List.mem_of_getElem? (i := 2) rfl)) (by decide) (by decide)) q287a q287c (g := (mkF m 17 #[.val (.int p0), .val (.ref b178), .val (.int (0 : Int32)), .unset, .unset, .unset, .unset, .unset, .unset] [(.ref b178)])) rfl (by rw [hml]; rfl) (Steps.refl _) (argsL := []) (rest := []) (lenOf pd_0 rfl) rfl (by show 2 * 0 + _ ≤ _; exact Nat.le_of_eq rfl) (hb hby at_17) (fun _ _ => ⟨rfl, rfl, (by decide : 2 + 0 ≤ _), (by decide : 11 + 0 ≤ _)⟩)
    dsimp only [Pt.U, Pt.locs, Pt.cells, Pt.slots] at X287 l287 y287 z287 st287 hQ287
    obtain rfl : k287 = 2 := y287
    obtain rfl : n287 = 11 := z287
    obtain ⟨rfl, N287q, K287, Fn287, Fc287⟩ := hQ287
    have N287 : Fr n0 L287 := by rw [l287]; exact Fr.app N181 N287q
    have Fn287x : Fld Z T287.heap b178 "com/example/role_delegation/roledelegation/Hierarchy" "numbered" "I" (.int (0 : Int32)) := Fn287
    have Fc287x : Fld Z T287.heap b178 "com/example/role_delegation/roledelegation/Hierarchy" "changes" "I" (.int (1 : Int32)) := Fc287
    have G290 : Go p e below A0 (T287.setTop (mkF m 20 #[.val (.int p0), .val (.ref b178), .val (.int (0 : Int32)), .unset, .unset, .unset, .unset, .unset, .unset] [])) := fun tq kq => G286 tq (st287.trans kq)
    have G291 : Go p e below A0 (T287.setTop (mkF m 25 #[.val (.int p0), .val (.ref b178), .val (.int (1 : Int32)), .unset, .unset, .unset, .unset, .unset, .unset] [(.ref b178)])) := fun tq kq => G290 tq (by
      refine XS.iloadN X287.here hx rfl (hb hby at_20) rfl ?_
      show Steps p.tables e below (T287.setTop (mkF m 21 #[.val (.int p0), .val (.ref b178), .val (.int (0 : Int32)), .unset, .unset, .unset, .unset, .unset, .unset] [(.int (0 : Int32))])) _
      refine XS.iconst X287.here hx rfl (hb hby at_21) ?_
      show Steps p.tables e below (T287.setTop (mkF m 22 #[.val (.int p0), .val (.ref b178), .val (.int (0 : Int32)), .unset, .unset, .unset, .unset, .unset, .unset] [(.int (1 : Int32)), (.int (0 : Int32))])) _
      refine XS.iadd X287.here hx rfl (hb hby at_22) rfl ?_
      show Steps p.tables e below (T287.setTop (mkF m 23 #[.val (.int p0), .val (.ref b178), .val (.int (0 : Int32)), .unset, .unset, .unset, .unset, .unset, .unset] [(.int ((0 : Int32) + (1 : Int32)))])) _
      rw [show ((0 : Int32) + (1 : Int32)) = (1 : Int32) from (by decide : ((0 : Int32) + (1 : Int32)) = (1 : Int32))]
      show Steps p.tables e below (T287.setTop (mkF m 23 #[.val (.int p0), .val (.ref b178), .val (.int (0 : Int32)), .unset, .unset, .unset, .unset, .unset, .unset] [(.int (1 : Int32))])) _
      refine XS.istoreN X287.here hx rfl (hb hby at_23) rfl (l' := #[.val (.int p0), .val (.ref b178), .val (.int (1 : Int32)), .unset, .unset, .unset, .unset, .unset, .unset]) rfl ?_
      show Steps p.tables e below (T287.setTop (mkF m 24 #[.val (.int p0), .val (.ref b178), .val (.int (1 : Int32)), .unset, .unset, .unset, .unset, .unset, .unset] [])) _
      refine XS.aloadN X287.here hx rfl (hb hby at_24) rfl rfl ?_
      show Steps p.tables e below (T287.setTop (mkF m 25 #[.val (.int p0), .val (.ref b178), .val (.int (1 : Int32)), .unset, .unset, .unset, .unset, .unset, .unset] [(.ref b178)])) _
      exact kq)
    have f293 := (Nat.le_trans f288 K287.1)
    have f294 := (f289.keep K287)
    obtain ⟨cq292, kq292, q292a, q292b, q292c⟩ := isOf hZ rfl f294
    obtain ⟨_, _, ⟨T292, L292, k292, n292⟩, -, X292, ⟨Lc292, hQ292, l292, y292, z292⟩, st292⟩ := X287.virtualBack hx (y := (⟨"com/example/role_delegation/roledelegation/Hierarchy", "number", "()I"⟩ : MethodName)) (z := (⟨"com/example/role_delegation/roledelegation/Hierarchy", "number", "()I"⟩ : MethodName)) hown (mvT hZ (hw _ (List.mem_of_getElem? (i := 27) rfl))) (mvT hZ (hw _ (List.mem_of_getElem? (i := 28) rfl))) (notFace_of_selects (args := #[]) (mvT hZ (hw _ (List.mem_of_getElem? (i := 30) rfl)))) (mvT hZ (hw _ (List.mem_of_getElem? (i := 30) rfl))) (mvT hZ (hw _ (List.mem_of_getElem? (i := 29) rfl))) (by decide) (backOf (W := 0) (rm5 l Z a0 hw [] b178 (0 : Int32) (1 : Int32) T287.heap n0 f293 f294 g_b178 Fn287x Fc287x ) hZ (hw _ (List.mem_of_getElem? (i := 31) rfl)) (hw _ (List.mem_of_getElem? (i := 2) rfl)) (by decide) (by decide)) q292a q292c (g := (mkF m 25 #[.val (.int p0), .val (.ref b178), .val (.int (1 : Int32)), .unset, .unset, .unset, .unset, .unset, .unset] [(.ref b178)])) rfl (by rw [hml]; rfl) (Steps.refl _) (argsL := []) (rest := []) (lenOf pd_5 rfl) rfl (by show 2 * 0 + _ ≤ _; exact Nat.le_of_eq rfl) (hb hby at_25) (fun _ _ => ⟨rfl, rfl, (by decide : 2 + 0 ≤ _), (by decide : 11 + 0 ≤ _)⟩)
    dsimp only [Pt.U, Pt.locs, Pt.cells, Pt.slots] at X292 l292 y292 z292 st292 hQ292
    obtain rfl : k292 = 2 := y292
    obtain rfl : n292 = 11 := z292
    obtain ⟨rfl, N292q, K292, Fn292, Fc292⟩ := hQ292
    have N292 : Fr n0 L292 := by rw [l292]; exact Fr.app N287 N292q
    have Fn292x : Fld Z T292.heap b178 "com/example/role_delegation/roledelegation/Hierarchy" "numbered" "I" (.int (1 : Int32)) := Fn292
    have Fc292x : Fld Z T292.heap b178 "com/example/role_delegation/roledelegation/Hierarchy" "changes" "I" (.int (1 : Int32)) := Fc292
    have G295 : Go p e below A0 (T292.setTop (mkF m 28 #[.val (.int p0), .val (.ref b178), .val (.int (1 : Int32)), .unset, .unset, .unset, .unset, .unset, .unset] [(.int (0 : Int32))])) := fun tq kq => G291 tq (st292.trans kq)
    have G296 : Go p e below A0 (T292.setTop (mkF m 30 #[.val (.int p0), .val (.ref b178), .val (.int (1 : Int32)), .val (.int (0 : Int32)), .unset, .unset, .unset, .unset, .unset] [(.ref b178)])) := fun tq kq => G295 tq (by
      refine XS.istoreN X292.here hx rfl (hb hby at_28) rfl (l' := #[.val (.int p0), .val (.ref b178), .val (.int (1 : Int32)), .val (.int (0 : Int32)), .unset, .unset, .unset, .unset, .unset]) rfl ?_
      show Steps p.tables e below (T292.setTop (mkF m 29 #[.val (.int p0), .val (.ref b178), .val (.int (1 : Int32)), .val (.int (0 : Int32)), .unset, .unset, .unset, .unset, .unset] [])) _
      refine XS.aloadN X292.here hx rfl (hb hby at_29) rfl rfl ?_
      show Steps p.tables e below (T292.setTop (mkF m 30 #[.val (.int p0), .val (.ref b178), .val (.int (1 : Int32)), .val (.int (0 : Int32)), .unset, .unset, .unset, .unset, .unset] [(.ref b178)])) _
      exact kq)
    have f298 := (Nat.le_trans f293 K292.1)
    have f299 := (f294.keep K292)
    obtain ⟨cq297, kq297, q297a, q297b, q297c⟩ := isOf hZ rfl f299
    obtain ⟨_, _, ⟨T297, L297, k297, n297⟩, -, X297, ⟨Lc297, hQ297, l297, y297, z297⟩, st297⟩ := X292.virtualBack hx (y := (⟨"com/example/role_delegation/roledelegation/Hierarchy", "number", "()I"⟩ : MethodName)) (z := (⟨"com/example/role_delegation/roledelegation/Hierarchy", "number", "()I"⟩ : MethodName)) hown (mvT hZ (hw _ (List.mem_of_getElem? (i := 27) rfl))) (mvT hZ (hw _ (List.mem_of_getElem? (i := 28) rfl))) (notFace_of_selects (args := #[]) (mvT hZ (hw _ (List.mem_of_getElem? (i := 30) rfl)))) (mvT hZ (hw _ (List.mem_of_getElem? (i := 30) rfl))) (mvT hZ (hw _ (List.mem_of_getElem? (i := 29) rfl))) (by decide) (backOf (W := 0) (rm5 l Z a0 hw [] b178 (1 : Int32) (1 : Int32) T292.heap n0 f298 f299 g_b178 Fn292x Fc292x ) hZ (hw _ (List.mem_of_getElem? (i := 31) rfl)) (hw _ (List.mem_of_getElem? (i := 2) rfl)) (by decide) (by decide)) q297a q297c (g := (mkF m 30 #[.val (.int p0), .val (.ref b178), .val (.int (1 : Int32)), .val (.int (0 : Int32)), .unset, .unset, .unset, .unset, .unset] [(.ref b178)])) rfl (by rw [hml]; rfl) (Steps.refl _) (argsL := []) (rest := []) (lenOf pd_5 rfl) rfl (by show 2 * 0 + _ ≤ _; exact Nat.le_of_eq rfl) (hb hby at_30) (fun _ _ => ⟨rfl, rfl, (by decide : 2 + 0 ≤ _), (by decide : 11 + 0 ≤ _)⟩)
    dsimp only [Pt.U, Pt.locs, Pt.cells, Pt.slots] at X297 l297 y297 z297 st297 hQ297
    obtain rfl : k297 = 2 := y297
    obtain rfl : n297 = 11 := z297
    obtain ⟨rfl, N297q, K297, Fn297, Fc297⟩ := hQ297
    have N297 : Fr n0 L297 := by rw [l297]; exact Fr.app N292 N297q
    have Fn297x : Fld Z T297.heap b178 "com/example/role_delegation/roledelegation/Hierarchy" "numbered" "I" (.int (2 : Int32)) := Fn297
    have Fc297x : Fld Z T297.heap b178 "com/example/role_delegation/roledelegation/Hierarchy" "changes" "I" (.int (1 : Int32)) := Fc297
    have G300 : Go p e below A0 (T297.setTop (mkF m 33 #[.val (.int p0), .val (.ref b178), .val (.int (1 : Int32)), .val (.int (0 : Int32)), .unset, .unset, .unset, .unset, .unset] [(.int (1 : Int32))])) := fun tq kq => G296 tq (st297.trans kq)
    have G301 : Go p e below A0 (T297.setTop (mkF m 38 #[.val (.int p0), .val (.ref b178), .val (.int (1 : Int32)), .val (.int (0 : Int32)), .val (.int (1 : Int32)), .unset, .unset, .unset, .unset] [(.int (p0 &&& (2 : Int32)))])) := fun tq kq => G300 tq (by
      refine XS.istore X297.here hx rfl (hb hby at_33) rfl (l' := #[.val (.int p0), .val (.ref b178), .val (.int (1 : Int32)), .val (.int (0 : Int32)), .val (.int (1 : Int32)), .unset, .unset, .unset, .unset]) rfl ?_
      show Steps p.tables e below (T297.setTop (mkF m 35 #[.val (.int p0), .val (.ref b178), .val (.int (1 : Int32)), .val (.int (0 : Int32)), .val (.int (1 : Int32)), .unset, .unset, .unset, .unset] [])) _
      refine XS.iloadN X297.here hx rfl (hb hby at_35) rfl ?_
      show Steps p.tables e below (T297.setTop (mkF m 36 #[.val (.int p0), .val (.ref b178), .val (.int (1 : Int32)), .val (.int (0 : Int32)), .val (.int (1 : Int32)), .unset, .unset, .unset, .unset] [(.int p0)])) _
      refine XS.iconst X297.here hx rfl (hb hby at_36) ?_
      show Steps p.tables e below (T297.setTop (mkF m 37 #[.val (.int p0), .val (.ref b178), .val (.int (1 : Int32)), .val (.int (0 : Int32)), .val (.int (1 : Int32)), .unset, .unset, .unset, .unset] [(.int (2 : Int32)), (.int p0)])) _
      refine XS.iand X297.here hx rfl (hb hby at_37) rfl ?_
      show Steps p.tables e below (T297.setTop (mkF m 38 #[.val (.int p0), .val (.ref b178), .val (.int (1 : Int32)), .val (.int (0 : Int32)), .val (.int (1 : Int32)), .unset, .unset, .unset, .unset] [(.int (p0 &&& (2 : Int32)))])) _
      exact kq)
    by_cases hc302 : (p0 &&& (2 : Int32)) = (0 : Int32)
    · have G303 : Go p e below A0 (T297.setTop (mkF m 78 #[.val (.int p0), .val (.ref b178), .val (.int (1 : Int32)), .val (.int (0 : Int32)), .val (.int (1 : Int32)), .val (.int (0 : Int32)), .val (.int (-1 : Int32)), .unset, .unset] [(.int (p0 &&& (4 : Int32)))])) := fun tq kq => G301 tq (by
        refine XS.ifYes X297.here hx rfl (pc0 := 38) (pc' := 45) rfl (hb hby at_38) rfl ((if0 _ _).trans (teq hc302).1) (by decide) (by decide) ?_
        show Steps p.tables e below (T297.setTop (mkF m 45 #[.val (.int p0), .val (.ref b178), .val (.int (1 : Int32)), .val (.int (0 : Int32)), .val (.int (1 : Int32)), .unset, .unset, .unset, .unset] [])) _
        refine XS.iconst X297.here hx rfl (hb hby at_45) ?_
        show Steps p.tables e below (T297.setTop (mkF m 46 #[.val (.int p0), .val (.ref b178), .val (.int (1 : Int32)), .val (.int (0 : Int32)), .val (.int (1 : Int32)), .unset, .unset, .unset, .unset] [(.int (0 : Int32))])) _
        refine XS.istore X297.here hx rfl (hb hby at_46) rfl (l' := #[.val (.int p0), .val (.ref b178), .val (.int (1 : Int32)), .val (.int (0 : Int32)), .val (.int (1 : Int32)), .val (.int (0 : Int32)), .unset, .unset, .unset]) rfl ?_
        show Steps p.tables e below (T297.setTop (mkF m 48 #[.val (.int p0), .val (.ref b178), .val (.int (1 : Int32)), .val (.int (0 : Int32)), .val (.int (1 : Int32)), .val (.int (0 : Int32)), .unset, .unset, .unset] [])) _
        refine XS.iconst X297.here hx rfl (hb hby at_48) ?_
        show Steps p.tables e below (T297.setTop (mkF m 49 #[.val (.int p0), .val (.ref b178), .val (.int (1 : Int32)), .val (.int (0 : Int32)), .val (.int (1 : Int32)), .val (.int (0 : Int32)), .unset, .unset, .unset] [(.int (-1 : Int32))])) _
        refine XS.istore X297.here hx rfl (hb hby at_49) rfl (l' := #[.val (.int p0), .val (.ref b178), .val (.int (1 : Int32)), .val (.int (0 : Int32)), .val (.int (1 : Int32)), .val (.int (0 : Int32)), .val (.int (-1 : Int32)), .unset, .unset]) rfl ?_
        show Steps p.tables e below (T297.setTop (mkF m 51 #[.val (.int p0), .val (.ref b178), .val (.int (1 : Int32)), .val (.int (0 : Int32)), .val (.int (1 : Int32)), .val (.int (0 : Int32)), .val (.int (-1 : Int32)), .unset, .unset] [])) _
        refine XS.iload X297.here hx rfl (hb hby at_51) rfl ?_
        show Steps p.tables e below (T297.setTop (mkF m 53 #[.val (.int p0), .val (.ref b178), .val (.int (1 : Int32)), .val (.int (0 : Int32)), .val (.int (1 : Int32)), .val (.int (0 : Int32)), .val (.int (-1 : Int32)), .unset, .unset] [(.int (0 : Int32))])) _
        refine XS.ifYes X297.here hx rfl (pc0 := 53) (pc' := 75) rfl (hb hby at_53) rfl (by decide) (by decide) (by decide) ?_
        show Steps p.tables e below (T297.setTop (mkF m 75 #[.val (.int p0), .val (.ref b178), .val (.int (1 : Int32)), .val (.int (0 : Int32)), .val (.int (1 : Int32)), .val (.int (0 : Int32)), .val (.int (-1 : Int32)), .unset, .unset] [])) _
        refine XS.iloadN X297.here hx rfl (hb hby at_75) rfl ?_
        show Steps p.tables e below (T297.setTop (mkF m 76 #[.val (.int p0), .val (.ref b178), .val (.int (1 : Int32)), .val (.int (0 : Int32)), .val (.int (1 : Int32)), .val (.int (0 : Int32)), .val (.int (-1 : Int32)), .unset, .unset] [(.int p0)])) _
        refine XS.iconst X297.here hx rfl (hb hby at_76) ?_
        show Steps p.tables e below (T297.setTop (mkF m 77 #[.val (.int p0), .val (.ref b178), .val (.int (1 : Int32)), .val (.int (0 : Int32)), .val (.int (1 : Int32)), .val (.int (0 : Int32)), .val (.int (-1 : Int32)), .unset, .unset] [(.int (4 : Int32)), (.int p0)])) _
        refine XS.iand X297.here hx rfl (hb hby at_77) rfl ?_
        show Steps p.tables e below (T297.setTop (mkF m 78 #[.val (.int p0), .val (.ref b178), .val (.int (1 : Int32)), .val (.int (0 : Int32)), .val (.int (1 : Int32)), .val (.int (0 : Int32)), .val (.int (-1 : Int32)), .unset, .unset] [(.int (p0 &&& (4 : Int32)))])) _
        exact kq)
      by_cases hc304 : (p0 &&& (4 : Int32)) = (0 : Int32)
      · have G305 : Go p e below A0 (T297.setTop (mkF m 90 #[.val (.int p0), .val (.ref b178), .val (.int (1 : Int32)), .val (.int (0 : Int32)), .val (.int (1 : Int32)), .val (.int (0 : Int32)), .val (.int (-1 : Int32)), .unset, .unset] [(.ref b178)])) := fun tq kq => G303 tq (by
          refine XS.ifYes X297.here hx rfl (pc0 := 78) (pc' := 89) rfl (hb hby at_78) rfl ((if0 _ _).trans (teq hc304).1) (by decide) (by decide) ?_
          show Steps p.tables e below (T297.setTop (mkF m 89 #[.val (.int p0), .val (.ref b178), .val (.int (1 : Int32)), .val (.int (0 : Int32)), .val (.int (1 : Int32)), .val (.int (0 : Int32)), .val (.int (-1 : Int32)), .unset, .unset] [])) _
          refine XS.aloadN X297.here hx rfl (hb hby at_89) rfl rfl ?_
          show Steps p.tables e below (T297.setTop (mkF m 90 #[.val (.int p0), .val (.ref b178), .val (.int (1 : Int32)), .val (.int (0 : Int32)), .val (.int (1 : Int32)), .val (.int (0 : Int32)), .val (.int (-1 : Int32)), .unset, .unset] [(.ref b178)])) _
          exact kq)
        have f307 := (Nat.le_trans f298 K297.1)
        have f308 := (f299.keep K297)
        obtain ⟨cq306, kq306, q306a, q306b, q306c⟩ := isOf hZ rfl f308
        obtain ⟨_, _, ⟨T306, L306, k306, n306⟩, -, X306, ⟨Lc306, hQ306, l306, y306, z306⟩, st306⟩ := X297.virtualBack hx (y := (⟨"com/example/role_delegation/roledelegation/Hierarchy", "number", "()I"⟩ : MethodName)) (z := (⟨"com/example/role_delegation/roledelegation/Hierarchy", "number", "()I"⟩ : MethodName)) hown (mvT hZ (hw _ (List.mem_of_getElem? (i := 27) rfl))) (mvT hZ (hw _ (List.mem_of_getElem? (i := 28) rfl))) (notFace_of_selects (args := #[]) (mvT hZ (hw _ (List.mem_of_getElem? (i := 30) rfl)))) (mvT hZ (hw _ (List.mem_of_getElem? (i := 30) rfl))) (mvT hZ (hw _ (List.mem_of_getElem? (i := 29) rfl))) (by decide) (backOf (W := 0) (rm5 l Z a0 hw [] b178 (2 : Int32) (1 : Int32) T297.heap n0 f307 f308 g_b178 Fn297x Fc297x ) hZ (hw _ (List.mem_of_getElem? (i := 31) rfl)) (hw _ (List.mem_of_getElem? (i := 2) rfl)) (by decide) (by decide)) q306a q306c (g := (mkF m 90 #[.val (.int p0), .val (.ref b178), .val (.int (1 : Int32)), .val (.int (0 : Int32)), .val (.int (1 : Int32)), .val (.int (0 : Int32)), .val (.int (-1 : Int32)), .unset, .unset] [(.ref b178)])) rfl (by rw [hml]; rfl) (Steps.refl _) (argsL := []) (rest := []) (lenOf pd_5 rfl) rfl (by show 2 * 0 + _ ≤ _; exact Nat.le_of_eq rfl) (hb hby at_90) (fun _ _ => ⟨rfl, rfl, (by decide : 2 + 0 ≤ _), (by decide : 11 + 0 ≤ _)⟩)
        dsimp only [Pt.U, Pt.locs, Pt.cells, Pt.slots] at X306 l306 y306 z306 st306 hQ306
        obtain rfl : k306 = 2 := y306
        obtain rfl : n306 = 11 := z306
        obtain ⟨rfl, N306q, K306, Fn306, Fc306⟩ := hQ306
        have N306 : Fr n0 L306 := by rw [l306]; exact Fr.app N297 N306q
        have Fn306x : Fld Z T306.heap b178 "com/example/role_delegation/roledelegation/Hierarchy" "numbered" "I" (.int (3 : Int32)) := Fn306
        have Fc306x : Fld Z T306.heap b178 "com/example/role_delegation/roledelegation/Hierarchy" "changes" "I" (.int (1 : Int32)) := Fc306
        have G309 : Go p e below A0 (T306.setTop (mkF m 93 #[.val (.int p0), .val (.ref b178), .val (.int (1 : Int32)), .val (.int (0 : Int32)), .val (.int (1 : Int32)), .val (.int (0 : Int32)), .val (.int (-1 : Int32)), .unset, .unset] [(.int (2 : Int32))])) := fun tq kq => G305 tq (st306.trans kq)
        have G310 : Go p e below A0 (T306.setTop (mkF m 136 #[.val (.int p0), .val (.ref b178), .val (.int (1 : Int32)), .val (.int (0 : Int32)), .val (.int (1 : Int32)), .val (.int (0 : Int32)), .val (.int (-1 : Int32)), .val (.int (2 : Int32)), .val (.int (2 : Int32))] [(.ref b178)])) := fun tq kq => G309 tq (by
          refine XS.istore X306.here hx rfl (hb hby at_93) rfl (l' := #[.val (.int p0), .val (.ref b178), .val (.int (1 : Int32)), .val (.int (0 : Int32)), .val (.int (1 : Int32)), .val (.int (0 : Int32)), .val (.int (-1 : Int32)), .val (.int (2 : Int32)), .unset]) rfl ?_
          show Steps p.tables e below (T306.setTop (mkF m 95 #[.val (.int p0), .val (.ref b178), .val (.int (1 : Int32)), .val (.int (0 : Int32)), .val (.int (1 : Int32)), .val (.int (0 : Int32)), .val (.int (-1 : Int32)), .val (.int (2 : Int32)), .unset] [])) _
          refine XS.iload X306.here hx rfl (hb hby at_95) rfl ?_
          show Steps p.tables e below (T306.setTop (mkF m 97 #[.val (.int p0), .val (.ref b178), .val (.int (1 : Int32)), .val (.int (0 : Int32)), .val (.int (1 : Int32)), .val (.int (0 : Int32)), .val (.int (-1 : Int32)), .val (.int (2 : Int32)), .unset] [(.int (0 : Int32))])) _
          refine XS.ifYes X306.here hx rfl (pc0 := 97) (pc' := 104) rfl (hb hby at_97) rfl (by decide) (by decide) (by decide) ?_
          show Steps p.tables e below (T306.setTop (mkF m 104 #[.val (.int p0), .val (.ref b178), .val (.int (1 : Int32)), .val (.int (0 : Int32)), .val (.int (1 : Int32)), .val (.int (0 : Int32)), .val (.int (-1 : Int32)), .val (.int (2 : Int32)), .unset] [])) _
          refine XS.iconst X306.here hx rfl (hb hby at_104) ?_
          show Steps p.tables e below (T306.setTop (mkF m 105 #[.val (.int p0), .val (.ref b178), .val (.int (1 : Int32)), .val (.int (0 : Int32)), .val (.int (1 : Int32)), .val (.int (0 : Int32)), .val (.int (-1 : Int32)), .val (.int (2 : Int32)), .unset] [(.int (2 : Int32))])) _
          refine XS.istore X306.here hx rfl (hb hby at_105) rfl (l' := #[.val (.int p0), .val (.ref b178), .val (.int (1 : Int32)), .val (.int (0 : Int32)), .val (.int (1 : Int32)), .val (.int (0 : Int32)), .val (.int (-1 : Int32)), .val (.int (2 : Int32)), .val (.int (2 : Int32))]) rfl ?_
          show Steps p.tables e below (T306.setTop (mkF m 107 #[.val (.int p0), .val (.ref b178), .val (.int (1 : Int32)), .val (.int (0 : Int32)), .val (.int (1 : Int32)), .val (.int (0 : Int32)), .val (.int (-1 : Int32)), .val (.int (2 : Int32)), .val (.int (2 : Int32))] [])) _
          refine XS.iloadN X306.here hx rfl (hb hby at_107) rfl ?_
          show Steps p.tables e below (T306.setTop (mkF m 108 #[.val (.int p0), .val (.ref b178), .val (.int (1 : Int32)), .val (.int (0 : Int32)), .val (.int (1 : Int32)), .val (.int (0 : Int32)), .val (.int (-1 : Int32)), .val (.int (2 : Int32)), .val (.int (2 : Int32))] [(.int (0 : Int32))])) _
          refine XS.ifNo X306.here hx rfl (hb hby at_108) rfl (by decide) ?_
          show Steps p.tables e below (T306.setTop (mkF m 111 #[.val (.int p0), .val (.ref b178), .val (.int (1 : Int32)), .val (.int (0 : Int32)), .val (.int (1 : Int32)), .val (.int (0 : Int32)), .val (.int (-1 : Int32)), .val (.int (2 : Int32)), .val (.int (2 : Int32))] [])) _
          refine XS.iload X306.here hx rfl (hb hby at_111) rfl ?_
          show Steps p.tables e below (T306.setTop (mkF m 113 #[.val (.int p0), .val (.ref b178), .val (.int (1 : Int32)), .val (.int (0 : Int32)), .val (.int (1 : Int32)), .val (.int (0 : Int32)), .val (.int (-1 : Int32)), .val (.int (2 : Int32)), .val (.int (2 : Int32))] [(.int (1 : Int32))])) _
          refine XS.iconst X306.here hx rfl (hb hby at_113) ?_
          show Steps p.tables e below (T306.setTop (mkF m 114 #[.val (.int p0), .val (.ref b178), .val (.int (1 : Int32)), .val (.int (0 : Int32)), .val (.int (1 : Int32)), .val (.int (0 : Int32)), .val (.int (-1 : Int32)), .val (.int (2 : Int32)), .val (.int (2 : Int32))] [(.int (1 : Int32)), (.int (1 : Int32))])) _
          refine XS.icmpNo X306.here hx rfl (hb hby at_114) rfl (by decide) ?_
          show Steps p.tables e below (T306.setTop (mkF m 117 #[.val (.int p0), .val (.ref b178), .val (.int (1 : Int32)), .val (.int (0 : Int32)), .val (.int (1 : Int32)), .val (.int (0 : Int32)), .val (.int (-1 : Int32)), .val (.int (2 : Int32)), .val (.int (2 : Int32))] [])) _
          refine XS.iload X306.here hx rfl (hb hby at_117) rfl ?_
          show Steps p.tables e below (T306.setTop (mkF m 119 #[.val (.int p0), .val (.ref b178), .val (.int (1 : Int32)), .val (.int (0 : Int32)), .val (.int (1 : Int32)), .val (.int (0 : Int32)), .val (.int (-1 : Int32)), .val (.int (2 : Int32)), .val (.int (2 : Int32))] [(.int (0 : Int32))])) _
          refine XS.ifYes X306.here hx rfl (pc0 := 119) (pc' := 128) rfl (hb hby at_119) rfl (by decide) (by decide) (by decide) ?_
          show Steps p.tables e below (T306.setTop (mkF m 128 #[.val (.int p0), .val (.ref b178), .val (.int (1 : Int32)), .val (.int (0 : Int32)), .val (.int (1 : Int32)), .val (.int (0 : Int32)), .val (.int (-1 : Int32)), .val (.int (2 : Int32)), .val (.int (2 : Int32))] [])) _
          refine XS.iload X306.here hx rfl (hb hby at_128) rfl ?_
          show Steps p.tables e below (T306.setTop (mkF m 130 #[.val (.int p0), .val (.ref b178), .val (.int (1 : Int32)), .val (.int (0 : Int32)), .val (.int (1 : Int32)), .val (.int (0 : Int32)), .val (.int (-1 : Int32)), .val (.int (2 : Int32)), .val (.int (2 : Int32))] [(.int (2 : Int32))])) _
          refine XS.iload X306.here hx rfl (hb hby at_130) rfl ?_
          show Steps p.tables e below (T306.setTop (mkF m 132 #[.val (.int p0), .val (.ref b178), .val (.int (1 : Int32)), .val (.int (0 : Int32)), .val (.int (1 : Int32)), .val (.int (0 : Int32)), .val (.int (-1 : Int32)), .val (.int (2 : Int32)), .val (.int (2 : Int32))] [(.int (2 : Int32)), (.int (2 : Int32))])) _
          refine XS.icmpNo X306.here hx rfl (hb hby at_132) rfl (by decide) ?_
          show Steps p.tables e below (T306.setTop (mkF m 135 #[.val (.int p0), .val (.ref b178), .val (.int (1 : Int32)), .val (.int (0 : Int32)), .val (.int (1 : Int32)), .val (.int (0 : Int32)), .val (.int (-1 : Int32)), .val (.int (2 : Int32)), .val (.int (2 : Int32))] [])) _
          refine XS.aloadN X306.here hx rfl (hb hby at_135) rfl rfl ?_
          show Steps p.tables e below (T306.setTop (mkF m 136 #[.val (.int p0), .val (.ref b178), .val (.int (1 : Int32)), .val (.int (0 : Int32)), .val (.int (1 : Int32)), .val (.int (0 : Int32)), .val (.int (-1 : Int32)), .val (.int (2 : Int32)), .val (.int (2 : Int32))] [(.ref b178)])) _
          exact kq)
        have f312 := (Nat.le_trans f307 K306.1)
        have f313 := (f308.keep K306)
        obtain ⟨cq311, kq311, q311a, q311b, q311c⟩ := isOf hZ rfl f313
        obtain ⟨_, _, ⟨T311, L311, k311, n311⟩, -, X311, ⟨Lc311, hQ311, l311, y311, z311⟩, st311⟩ := X306.virtualBack hx (y := (⟨"com/example/role_delegation/roledelegation/Hierarchy", "changes", "()I"⟩ : MethodName)) (z := (⟨"com/example/role_delegation/roledelegation/Hierarchy", "changes", "()I"⟩ : MethodName)) hown (mvT hZ (hw _ (List.mem_of_getElem? (i := 34) rfl))) (mvT hZ (hw _ (List.mem_of_getElem? (i := 35) rfl))) (notFace_of_selects (args := #[]) (mvT hZ (hw _ (List.mem_of_getElem? (i := 37) rfl)))) (mvT hZ (hw _ (List.mem_of_getElem? (i := 37) rfl))) (mvT hZ (hw _ (List.mem_of_getElem? (i := 36) rfl))) (by decide) (backOf (W := 0) (rm6 l Z a0 hw [] b178 (3 : Int32) (1 : Int32) T306.heap n0 f312 f313 g_b178 Fn306x Fc306x) hZ (hw _ (List.mem_of_getElem? (i := 38) rfl)) (hw _ (List.mem_of_getElem? (i := 2) rfl)) (by decide) (by decide)) q311a q311c (g := (mkF m 136 #[.val (.int p0), .val (.ref b178), .val (.int (1 : Int32)), .val (.int (0 : Int32)), .val (.int (1 : Int32)), .val (.int (0 : Int32)), .val (.int (-1 : Int32)), .val (.int (2 : Int32)), .val (.int (2 : Int32))] [(.ref b178)])) rfl (by rw [hml]; rfl) (Steps.refl _) (argsL := []) (rest := []) (lenOf pd_5 rfl) rfl (by show 2 * 0 + _ ≤ _; exact Nat.le_of_eq rfl) (hb hby at_136) (fun _ _ => ⟨rfl, rfl, (by decide : 2 + 0 ≤ _), (by decide : 11 + 0 ≤ _)⟩)
        dsimp only [Pt.U, Pt.locs, Pt.cells, Pt.slots] at X311 l311 y311 z311 st311 hQ311
        obtain rfl : k311 = 2 := y311
        obtain rfl : n311 = 11 := z311
        obtain ⟨rfl, N311q, e311⟩ := hQ311
        have N311 : Fr n0 L311 := by rw [l311]; exact Fr.app N306 N311q
        have G314 : Go p e below A0 (T311.setTop (mkF m 139 #[.val (.int p0), .val (.ref b178), .val (.int (1 : Int32)), .val (.int (0 : Int32)), .val (.int (1 : Int32)), .val (.int (0 : Int32)), .val (.int (-1 : Int32)), .val (.int (2 : Int32)), .val (.int (2 : Int32))] [(.int (1 : Int32))])) := fun tq kq => G310 tq (st311.trans kq)
        have G315 : Go p e below A0 (T311.setTop (mkF m 148 #[.val (.int p0), .val (.ref b178), .val (.int (1 : Int32)), .val (.int (0 : Int32)), .val (.int (1 : Int32)), .val (.int (0 : Int32)), .val (.int (-1 : Int32)), .val (.int (2 : Int32)), .val (.int (2 : Int32))] [(.int (1 : Int32))])) := fun tq kq => G314 tq (by
          refine XS.iloadN X311.here hx rfl (hb hby at_139) rfl ?_
          show Steps p.tables e below (T311.setTop (mkF m 140 #[.val (.int p0), .val (.ref b178), .val (.int (1 : Int32)), .val (.int (0 : Int32)), .val (.int (1 : Int32)), .val (.int (0 : Int32)), .val (.int (-1 : Int32)), .val (.int (2 : Int32)), .val (.int (2 : Int32))] [(.int (1 : Int32)), (.int (1 : Int32))])) _
          refine XS.icmpNo X311.here hx rfl (hb hby at_140) rfl (by decide) ?_
          show Steps p.tables e below (T311.setTop (mkF m 143 #[.val (.int p0), .val (.ref b178), .val (.int (1 : Int32)), .val (.int (0 : Int32)), .val (.int (1 : Int32)), .val (.int (0 : Int32)), .val (.int (-1 : Int32)), .val (.int (2 : Int32)), .val (.int (2 : Int32))] [])) _
          refine XS.iconst X311.here hx rfl (hb hby at_143) ?_
          show Steps p.tables e below (T311.setTop (mkF m 144 #[.val (.int p0), .val (.ref b178), .val (.int (1 : Int32)), .val (.int (0 : Int32)), .val (.int (1 : Int32)), .val (.int (0 : Int32)), .val (.int (-1 : Int32)), .val (.int (2 : Int32)), .val (.int (2 : Int32))] [(.int (1 : Int32))])) _
          refine XS.goto X311.here hx rfl (pc0 := 144) (pc' := 148) rfl (hb hby at_144) (by decide) (by decide) ?_
          show Steps p.tables e below (T311.setTop (mkF m 148 #[.val (.int p0), .val (.ref b178), .val (.int (1 : Int32)), .val (.int (0 : Int32)), .val (.int (1 : Int32)), .val (.int (0 : Int32)), .val (.int (-1 : Int32)), .val (.int (2 : Int32)), .val (.int (2 : Int32))] [(.int (1 : Int32))])) _
          exact kq)
        have f316 := (Nat.le_trans (Nat.le_trans (Nat.le_trans (Nat.le_trans (Nat.le_trans (Nat.le_trans (Nat.zero_le h0.size) E178.1) K181.1) K287.1) K292.1) K297.1) K306.1)
        obtain ⟨fs, hr, hrun, hended, hRW⟩ := X311.leaveW (s := s) (vm₁ := s.vm) hS (by rw [e311]; exact f316) (v := some (.int (nar .boolean (1 : Int32)))) (fun h => by rw [Bd.returns] at h; cases h)
        refine ⟨_, _, (by rw [← hA0]; exact G315 _ (retN X311 hx (t := .boolean) Bd.returns (by simp) (hb hby at_148) hr)), hrun, hended, _, _, rfl, ?_, hRW.1, hRW.2.1, hRW.2.2.1, hRW.2.2.2.mono (by decide) (by decide)⟩
        exact ⟨rfl, N311⟩
      · have G317 : Go p e below A0 (T297.setTop (mkF m 82 #[.val (.int p0), .val (.ref b178), .val (.int (1 : Int32)), .val (.int (0 : Int32)), .val (.int (1 : Int32)), .val (.int (0 : Int32)), .val (.int (-1 : Int32)), .unset, .unset] [(.ref b178)])) := fun tq kq => G303 tq (by
          refine XS.ifNo X297.here hx rfl (hb hby at_78) rfl ((if0 _ _).trans (feq hc304).1) ?_
          show Steps p.tables e below (T297.setTop (mkF m 81 #[.val (.int p0), .val (.ref b178), .val (.int (1 : Int32)), .val (.int (0 : Int32)), .val (.int (1 : Int32)), .val (.int (0 : Int32)), .val (.int (-1 : Int32)), .unset, .unset] [])) _
          refine XS.aloadN X297.here hx rfl (hb hby at_81) rfl rfl ?_
          show Steps p.tables e below (T297.setTop (mkF m 82 #[.val (.int p0), .val (.ref b178), .val (.int (1 : Int32)), .val (.int (0 : Int32)), .val (.int (1 : Int32)), .val (.int (0 : Int32)), .val (.int (-1 : Int32)), .unset, .unset] [(.ref b178)])) _
          exact kq)
        have f319 := (Nat.le_trans f298 K297.1)
        have f320 := (f299.keep K297)
        obtain ⟨cq318, kq318, q318a, q318b, q318c⟩ := isOf hZ rfl f320
        obtain ⟨_, _, ⟨T318, L318, k318, n318⟩, -, X318, ⟨Lc318, hQ318, l318, y318, z318⟩, st318⟩ := X297.virtualBack hx (y := (⟨"com/example/role_delegation/roledelegation/Hierarchy", "changed", "()V"⟩ : MethodName)) (z := (⟨"com/example/role_delegation/roledelegation/Hierarchy", "changed", "()V"⟩ : MethodName)) hown (mvT hZ (hw _ (List.mem_of_getElem? (i := 41) rfl))) (mvT hZ (hw _ (List.mem_of_getElem? (i := 42) rfl))) (notFace_of_selects (args := #[]) (mvT hZ (hw _ (List.mem_of_getElem? (i := 44) rfl)))) (mvT hZ (hw _ (List.mem_of_getElem? (i := 44) rfl))) (mvT hZ (hw _ (List.mem_of_getElem? (i := 43) rfl))) (by decide) (backOf (W := 0) (rm7 l Z a0 hw [] b178 (2 : Int32) (1 : Int32) T297.heap n0 f319 f320 g_b178 Fn297x Fc297x ) hZ (hw _ (List.mem_of_getElem? (i := 45) rfl)) (hw _ (List.mem_of_getElem? (i := 2) rfl)) (by decide) (by decide)) q318a q318c (g := (mkF m 82 #[.val (.int p0), .val (.ref b178), .val (.int (1 : Int32)), .val (.int (0 : Int32)), .val (.int (1 : Int32)), .val (.int (0 : Int32)), .val (.int (-1 : Int32)), .unset, .unset] [(.ref b178)])) rfl (by rw [hml]; rfl) (Steps.refl _) (argsL := []) (rest := []) (lenOf pd_0 rfl) rfl (by show 2 * 0 + _ ≤ _; exact Nat.le_of_eq rfl) (hb hby at_82) (fun _ _ => ⟨rfl, rfl, (by decide : 2 + 0 ≤ _), (by decide : 11 + 0 ≤ _)⟩)
        dsimp only [Pt.U, Pt.locs, Pt.cells, Pt.slots] at X318 l318 y318 z318 st318 hQ318
        obtain rfl : k318 = 2 := y318
        obtain rfl : n318 = 11 := z318
        obtain ⟨rfl, N318q, K318, Fn318, Fc318⟩ := hQ318
        have N318 : Fr n0 L318 := by rw [l318]; exact Fr.app N297 N318q
        have Fn318x : Fld Z T318.heap b178 "com/example/role_delegation/roledelegation/Hierarchy" "numbered" "I" (.int (2 : Int32)) := Fn318
        have Fc318x : Fld Z T318.heap b178 "com/example/role_delegation/roledelegation/Hierarchy" "changes" "I" (.int (2 : Int32)) := Fc318
        have G321 : Go p e below A0 (T318.setTop (mkF m 85 #[.val (.int p0), .val (.ref b178), .val (.int (1 : Int32)), .val (.int (0 : Int32)), .val (.int (1 : Int32)), .val (.int (0 : Int32)), .val (.int (-1 : Int32)), .unset, .unset] [])) := fun tq kq => G317 tq (st318.trans kq)
        have G322 : Go p e below A0 (T318.setTop (mkF m 90 #[.val (.int p0), .val (.ref b178), .val (.int (2 : Int32)), .val (.int (0 : Int32)), .val (.int (1 : Int32)), .val (.int (0 : Int32)), .val (.int (-1 : Int32)), .unset, .unset] [(.ref b178)])) := fun tq kq => G321 tq (by
          refine XS.iloadN X318.here hx rfl (hb hby at_85) rfl ?_
          show Steps p.tables e below (T318.setTop (mkF m 86 #[.val (.int p0), .val (.ref b178), .val (.int (1 : Int32)), .val (.int (0 : Int32)), .val (.int (1 : Int32)), .val (.int (0 : Int32)), .val (.int (-1 : Int32)), .unset, .unset] [(.int (1 : Int32))])) _
          refine XS.iconst X318.here hx rfl (hb hby at_86) ?_
          show Steps p.tables e below (T318.setTop (mkF m 87 #[.val (.int p0), .val (.ref b178), .val (.int (1 : Int32)), .val (.int (0 : Int32)), .val (.int (1 : Int32)), .val (.int (0 : Int32)), .val (.int (-1 : Int32)), .unset, .unset] [(.int (1 : Int32)), (.int (1 : Int32))])) _
          refine XS.iadd X318.here hx rfl (hb hby at_87) rfl ?_
          show Steps p.tables e below (T318.setTop (mkF m 88 #[.val (.int p0), .val (.ref b178), .val (.int (1 : Int32)), .val (.int (0 : Int32)), .val (.int (1 : Int32)), .val (.int (0 : Int32)), .val (.int (-1 : Int32)), .unset, .unset] [(.int ((1 : Int32) + (1 : Int32)))])) _
          rw [show ((1 : Int32) + (1 : Int32)) = (2 : Int32) from (by decide : ((1 : Int32) + (1 : Int32)) = (2 : Int32))]
          show Steps p.tables e below (T318.setTop (mkF m 88 #[.val (.int p0), .val (.ref b178), .val (.int (1 : Int32)), .val (.int (0 : Int32)), .val (.int (1 : Int32)), .val (.int (0 : Int32)), .val (.int (-1 : Int32)), .unset, .unset] [(.int (2 : Int32))])) _
          refine XS.istoreN X318.here hx rfl (hb hby at_88) rfl (l' := #[.val (.int p0), .val (.ref b178), .val (.int (2 : Int32)), .val (.int (0 : Int32)), .val (.int (1 : Int32)), .val (.int (0 : Int32)), .val (.int (-1 : Int32)), .unset, .unset]) rfl ?_
          show Steps p.tables e below (T318.setTop (mkF m 89 #[.val (.int p0), .val (.ref b178), .val (.int (2 : Int32)), .val (.int (0 : Int32)), .val (.int (1 : Int32)), .val (.int (0 : Int32)), .val (.int (-1 : Int32)), .unset, .unset] [])) _
          refine XS.aloadN X318.here hx rfl (hb hby at_89) rfl rfl ?_
          show Steps p.tables e below (T318.setTop (mkF m 90 #[.val (.int p0), .val (.ref b178), .val (.int (2 : Int32)), .val (.int (0 : Int32)), .val (.int (1 : Int32)), .val (.int (0 : Int32)), .val (.int (-1 : Int32)), .unset, .unset] [(.ref b178)])) _
          exact kq)
        have f324 := (Nat.le_trans f319 K318.1)
        have f325 := (f320.keep K318)
        obtain ⟨cq323, kq323, q323a, q323b, q323c⟩ := isOf hZ rfl f325
        obtain ⟨_, _, ⟨T323, L323, k323, n323⟩, -, X323, ⟨Lc323, hQ323, l323, y323, z323⟩, st323⟩ := X318.virtualBack hx (y := (⟨"com/example/role_delegation/roledelegation/Hierarchy", "number", "()I"⟩ : MethodName)) (z := (⟨"com/example/role_delegation/roledelegation/Hierarchy", "number", "()I"⟩ : MethodName)) hown (mvT hZ (hw _ (List.mem_of_getElem? (i := 27) rfl))) (mvT hZ (hw _ (List.mem_of_getElem? (i := 28) rfl))) (notFace_of_selects (args := #[]) (mvT hZ (hw _ (List.mem_of_getElem? (i := 30) rfl)))) (mvT hZ (hw _ (List.mem_of_getElem? (i := 30) rfl))) (mvT hZ (hw _ (List.mem_of_getElem? (i := 29) rfl))) (by decide) (backOf (W := 0) (rm5 l Z a0 hw [] b178 (2 : Int32) (2 : Int32) T318.heap n0 f324 f325 g_b178 Fn318x Fc318x ) hZ (hw _ (List.mem_of_getElem? (i := 31) rfl)) (hw _ (List.mem_of_getElem? (i := 2) rfl)) (by decide) (by decide)) q323a q323c (g := (mkF m 90 #[.val (.int p0), .val (.ref b178), .val (.int (2 : Int32)), .val (.int (0 : Int32)), .val (.int (1 : Int32)), .val (.int (0 : Int32)), .val (.int (-1 : Int32)), .unset, .unset] [(.ref b178)])) rfl (by rw [hml]; rfl) (Steps.refl _) (argsL := []) (rest := []) (lenOf pd_5 rfl) rfl (by show 2 * 0 + _ ≤ _; exact Nat.le_of_eq rfl) (hb hby at_90) (fun _ _ => ⟨rfl, rfl, (by decide : 2 + 0 ≤ _), (by decide : 11 + 0 ≤ _)⟩)
        dsimp only [Pt.U, Pt.locs, Pt.cells, Pt.slots] at X323 l323 y323 z323 st323 hQ323
        obtain rfl : k323 = 2 := y323
        obtain rfl : n323 = 11 := z323
        obtain ⟨rfl, N323q, K323, Fn323, Fc323⟩ := hQ323
        have N323 : Fr n0 L323 := by rw [l323]; exact Fr.app N318 N323q
        have Fn323x : Fld Z T323.heap b178 "com/example/role_delegation/roledelegation/Hierarchy" "numbered" "I" (.int (3 : Int32)) := Fn323
        have Fc323x : Fld Z T323.heap b178 "com/example/role_delegation/roledelegation/Hierarchy" "changes" "I" (.int (2 : Int32)) := Fc323
        have G326 : Go p e below A0 (T323.setTop (mkF m 93 #[.val (.int p0), .val (.ref b178), .val (.int (2 : Int32)), .val (.int (0 : Int32)), .val (.int (1 : Int32)), .val (.int (0 : Int32)), .val (.int (-1 : Int32)), .unset, .unset] [(.int (2 : Int32))])) := fun tq kq => G322 tq (st323.trans kq)
        have G327 : Go p e below A0 (T323.setTop (mkF m 136 #[.val (.int p0), .val (.ref b178), .val (.int (2 : Int32)), .val (.int (0 : Int32)), .val (.int (1 : Int32)), .val (.int (0 : Int32)), .val (.int (-1 : Int32)), .val (.int (2 : Int32)), .val (.int (2 : Int32))] [(.ref b178)])) := fun tq kq => G326 tq (by
          refine XS.istore X323.here hx rfl (hb hby at_93) rfl (l' := #[.val (.int p0), .val (.ref b178), .val (.int (2 : Int32)), .val (.int (0 : Int32)), .val (.int (1 : Int32)), .val (.int (0 : Int32)), .val (.int (-1 : Int32)), .val (.int (2 : Int32)), .unset]) rfl ?_
          show Steps p.tables e below (T323.setTop (mkF m 95 #[.val (.int p0), .val (.ref b178), .val (.int (2 : Int32)), .val (.int (0 : Int32)), .val (.int (1 : Int32)), .val (.int (0 : Int32)), .val (.int (-1 : Int32)), .val (.int (2 : Int32)), .unset] [])) _
          refine XS.iload X323.here hx rfl (hb hby at_95) rfl ?_
          show Steps p.tables e below (T323.setTop (mkF m 97 #[.val (.int p0), .val (.ref b178), .val (.int (2 : Int32)), .val (.int (0 : Int32)), .val (.int (1 : Int32)), .val (.int (0 : Int32)), .val (.int (-1 : Int32)), .val (.int (2 : Int32)), .unset] [(.int (0 : Int32))])) _
          refine XS.ifYes X323.here hx rfl (pc0 := 97) (pc' := 104) rfl (hb hby at_97) rfl (by decide) (by decide) (by decide) ?_
          show Steps p.tables e below (T323.setTop (mkF m 104 #[.val (.int p0), .val (.ref b178), .val (.int (2 : Int32)), .val (.int (0 : Int32)), .val (.int (1 : Int32)), .val (.int (0 : Int32)), .val (.int (-1 : Int32)), .val (.int (2 : Int32)), .unset] [])) _
          refine XS.iconst X323.here hx rfl (hb hby at_104) ?_
          show Steps p.tables e below (T323.setTop (mkF m 105 #[.val (.int p0), .val (.ref b178), .val (.int (2 : Int32)), .val (.int (0 : Int32)), .val (.int (1 : Int32)), .val (.int (0 : Int32)), .val (.int (-1 : Int32)), .val (.int (2 : Int32)), .unset] [(.int (2 : Int32))])) _
          refine XS.istore X323.here hx rfl (hb hby at_105) rfl (l' := #[.val (.int p0), .val (.ref b178), .val (.int (2 : Int32)), .val (.int (0 : Int32)), .val (.int (1 : Int32)), .val (.int (0 : Int32)), .val (.int (-1 : Int32)), .val (.int (2 : Int32)), .val (.int (2 : Int32))]) rfl ?_
          show Steps p.tables e below (T323.setTop (mkF m 107 #[.val (.int p0), .val (.ref b178), .val (.int (2 : Int32)), .val (.int (0 : Int32)), .val (.int (1 : Int32)), .val (.int (0 : Int32)), .val (.int (-1 : Int32)), .val (.int (2 : Int32)), .val (.int (2 : Int32))] [])) _
          refine XS.iloadN X323.here hx rfl (hb hby at_107) rfl ?_
          show Steps p.tables e below (T323.setTop (mkF m 108 #[.val (.int p0), .val (.ref b178), .val (.int (2 : Int32)), .val (.int (0 : Int32)), .val (.int (1 : Int32)), .val (.int (0 : Int32)), .val (.int (-1 : Int32)), .val (.int (2 : Int32)), .val (.int (2 : Int32))] [(.int (0 : Int32))])) _
          refine XS.ifNo X323.here hx rfl (hb hby at_108) rfl (by decide) ?_
          show Steps p.tables e below (T323.setTop (mkF m 111 #[.val (.int p0), .val (.ref b178), .val (.int (2 : Int32)), .val (.int (0 : Int32)), .val (.int (1 : Int32)), .val (.int (0 : Int32)), .val (.int (-1 : Int32)), .val (.int (2 : Int32)), .val (.int (2 : Int32))] [])) _
          refine XS.iload X323.here hx rfl (hb hby at_111) rfl ?_
          show Steps p.tables e below (T323.setTop (mkF m 113 #[.val (.int p0), .val (.ref b178), .val (.int (2 : Int32)), .val (.int (0 : Int32)), .val (.int (1 : Int32)), .val (.int (0 : Int32)), .val (.int (-1 : Int32)), .val (.int (2 : Int32)), .val (.int (2 : Int32))] [(.int (1 : Int32))])) _
          refine XS.iconst X323.here hx rfl (hb hby at_113) ?_
          show Steps p.tables e below (T323.setTop (mkF m 114 #[.val (.int p0), .val (.ref b178), .val (.int (2 : Int32)), .val (.int (0 : Int32)), .val (.int (1 : Int32)), .val (.int (0 : Int32)), .val (.int (-1 : Int32)), .val (.int (2 : Int32)), .val (.int (2 : Int32))] [(.int (1 : Int32)), (.int (1 : Int32))])) _
          refine XS.icmpNo X323.here hx rfl (hb hby at_114) rfl (by decide) ?_
          show Steps p.tables e below (T323.setTop (mkF m 117 #[.val (.int p0), .val (.ref b178), .val (.int (2 : Int32)), .val (.int (0 : Int32)), .val (.int (1 : Int32)), .val (.int (0 : Int32)), .val (.int (-1 : Int32)), .val (.int (2 : Int32)), .val (.int (2 : Int32))] [])) _
          refine XS.iload X323.here hx rfl (hb hby at_117) rfl ?_
          show Steps p.tables e below (T323.setTop (mkF m 119 #[.val (.int p0), .val (.ref b178), .val (.int (2 : Int32)), .val (.int (0 : Int32)), .val (.int (1 : Int32)), .val (.int (0 : Int32)), .val (.int (-1 : Int32)), .val (.int (2 : Int32)), .val (.int (2 : Int32))] [(.int (0 : Int32))])) _
          refine XS.ifYes X323.here hx rfl (pc0 := 119) (pc' := 128) rfl (hb hby at_119) rfl (by decide) (by decide) (by decide) ?_
          show Steps p.tables e below (T323.setTop (mkF m 128 #[.val (.int p0), .val (.ref b178), .val (.int (2 : Int32)), .val (.int (0 : Int32)), .val (.int (1 : Int32)), .val (.int (0 : Int32)), .val (.int (-1 : Int32)), .val (.int (2 : Int32)), .val (.int (2 : Int32))] [])) _
          refine XS.iload X323.here hx rfl (hb hby at_128) rfl ?_
          show Steps p.tables e below (T323.setTop (mkF m 130 #[.val (.int p0), .val (.ref b178), .val (.int (2 : Int32)), .val (.int (0 : Int32)), .val (.int (1 : Int32)), .val (.int (0 : Int32)), .val (.int (-1 : Int32)), .val (.int (2 : Int32)), .val (.int (2 : Int32))] [(.int (2 : Int32))])) _
          refine XS.iload X323.here hx rfl (hb hby at_130) rfl ?_
          show Steps p.tables e below (T323.setTop (mkF m 132 #[.val (.int p0), .val (.ref b178), .val (.int (2 : Int32)), .val (.int (0 : Int32)), .val (.int (1 : Int32)), .val (.int (0 : Int32)), .val (.int (-1 : Int32)), .val (.int (2 : Int32)), .val (.int (2 : Int32))] [(.int (2 : Int32)), (.int (2 : Int32))])) _
          refine XS.icmpNo X323.here hx rfl (hb hby at_132) rfl (by decide) ?_
          show Steps p.tables e below (T323.setTop (mkF m 135 #[.val (.int p0), .val (.ref b178), .val (.int (2 : Int32)), .val (.int (0 : Int32)), .val (.int (1 : Int32)), .val (.int (0 : Int32)), .val (.int (-1 : Int32)), .val (.int (2 : Int32)), .val (.int (2 : Int32))] [])) _
          refine XS.aloadN X323.here hx rfl (hb hby at_135) rfl rfl ?_
          show Steps p.tables e below (T323.setTop (mkF m 136 #[.val (.int p0), .val (.ref b178), .val (.int (2 : Int32)), .val (.int (0 : Int32)), .val (.int (1 : Int32)), .val (.int (0 : Int32)), .val (.int (-1 : Int32)), .val (.int (2 : Int32)), .val (.int (2 : Int32))] [(.ref b178)])) _
          exact kq)
        have f329 := (Nat.le_trans f324 K323.1)
        have f330 := (f325.keep K323)
        obtain ⟨cq328, kq328, q328a, q328b, q328c⟩ := isOf hZ rfl f330
        obtain ⟨_, _, ⟨T328, L328, k328, n328⟩, -, X328, ⟨Lc328, hQ328, l328, y328, z328⟩, st328⟩ := X323.virtualBack hx (y := (⟨"com/example/role_delegation/roledelegation/Hierarchy", "changes", "()I"⟩ : MethodName)) (z := (⟨"com/example/role_delegation/roledelegation/Hierarchy", "changes", "()I"⟩ : MethodName)) hown (mvT hZ (hw _ (List.mem_of_getElem? (i := 34) rfl))) (mvT hZ (hw _ (List.mem_of_getElem? (i := 35) rfl))) (notFace_of_selects (args := #[]) (mvT hZ (hw _ (List.mem_of_getElem? (i := 37) rfl)))) (mvT hZ (hw _ (List.mem_of_getElem? (i := 37) rfl))) (mvT hZ (hw _ (List.mem_of_getElem? (i := 36) rfl))) (by decide) (backOf (W := 0) (rm6 l Z a0 hw [] b178 (3 : Int32) (2 : Int32) T323.heap n0 f329 f330 g_b178 Fn323x Fc323x) hZ (hw _ (List.mem_of_getElem? (i := 38) rfl)) (hw _ (List.mem_of_getElem? (i := 2) rfl)) (by decide) (by decide)) q328a q328c (g := (mkF m 136 #[.val (.int p0), .val (.ref b178), .val (.int (2 : Int32)), .val (.int (0 : Int32)), .val (.int (1 : Int32)), .val (.int (0 : Int32)), .val (.int (-1 : Int32)), .val (.int (2 : Int32)), .val (.int (2 : Int32))] [(.ref b178)])) rfl (by rw [hml]; rfl) (Steps.refl _) (argsL := []) (rest := []) (lenOf pd_5 rfl) rfl (by show 2 * 0 + _ ≤ _; exact Nat.le_of_eq rfl) (hb hby at_136) (fun _ _ => ⟨rfl, rfl, (by decide : 2 + 0 ≤ _), (by decide : 11 + 0 ≤ _)⟩)
        dsimp only [Pt.U, Pt.locs, Pt.cells, Pt.slots] at X328 l328 y328 z328 st328 hQ328
        obtain rfl : k328 = 2 := y328
        obtain rfl : n328 = 11 := z328
        obtain ⟨rfl, N328q, e328⟩ := hQ328
        have N328 : Fr n0 L328 := by rw [l328]; exact Fr.app N323 N328q
        have G331 : Go p e below A0 (T328.setTop (mkF m 139 #[.val (.int p0), .val (.ref b178), .val (.int (2 : Int32)), .val (.int (0 : Int32)), .val (.int (1 : Int32)), .val (.int (0 : Int32)), .val (.int (-1 : Int32)), .val (.int (2 : Int32)), .val (.int (2 : Int32))] [(.int (2 : Int32))])) := fun tq kq => G327 tq (st328.trans kq)
        have G332 : Go p e below A0 (T328.setTop (mkF m 148 #[.val (.int p0), .val (.ref b178), .val (.int (2 : Int32)), .val (.int (0 : Int32)), .val (.int (1 : Int32)), .val (.int (0 : Int32)), .val (.int (-1 : Int32)), .val (.int (2 : Int32)), .val (.int (2 : Int32))] [(.int (1 : Int32))])) := fun tq kq => G331 tq (by
          refine XS.iloadN X328.here hx rfl (hb hby at_139) rfl ?_
          show Steps p.tables e below (T328.setTop (mkF m 140 #[.val (.int p0), .val (.ref b178), .val (.int (2 : Int32)), .val (.int (0 : Int32)), .val (.int (1 : Int32)), .val (.int (0 : Int32)), .val (.int (-1 : Int32)), .val (.int (2 : Int32)), .val (.int (2 : Int32))] [(.int (2 : Int32)), (.int (2 : Int32))])) _
          refine XS.icmpNo X328.here hx rfl (hb hby at_140) rfl (by decide) ?_
          show Steps p.tables e below (T328.setTop (mkF m 143 #[.val (.int p0), .val (.ref b178), .val (.int (2 : Int32)), .val (.int (0 : Int32)), .val (.int (1 : Int32)), .val (.int (0 : Int32)), .val (.int (-1 : Int32)), .val (.int (2 : Int32)), .val (.int (2 : Int32))] [])) _
          refine XS.iconst X328.here hx rfl (hb hby at_143) ?_
          show Steps p.tables e below (T328.setTop (mkF m 144 #[.val (.int p0), .val (.ref b178), .val (.int (2 : Int32)), .val (.int (0 : Int32)), .val (.int (1 : Int32)), .val (.int (0 : Int32)), .val (.int (-1 : Int32)), .val (.int (2 : Int32)), .val (.int (2 : Int32))] [(.int (1 : Int32))])) _
          refine XS.goto X328.here hx rfl (pc0 := 144) (pc' := 148) rfl (hb hby at_144) (by decide) (by decide) ?_
          show Steps p.tables e below (T328.setTop (mkF m 148 #[.val (.int p0), .val (.ref b178), .val (.int (2 : Int32)), .val (.int (0 : Int32)), .val (.int (1 : Int32)), .val (.int (0 : Int32)), .val (.int (-1 : Int32)), .val (.int (2 : Int32)), .val (.int (2 : Int32))] [(.int (1 : Int32))])) _
          exact kq)
        have f333 := (Nat.le_trans (Nat.le_trans (Nat.le_trans (Nat.le_trans (Nat.le_trans (Nat.le_trans (Nat.le_trans (Nat.zero_le h0.size) E178.1) K181.1) K287.1) K292.1) K297.1) K318.1) K323.1)
        obtain ⟨fs, hr, hrun, hended, hRW⟩ := X328.leaveW (s := s) (vm₁ := s.vm) hS (by rw [e328]; exact f333) (v := some (.int (nar .boolean (1 : Int32)))) (fun h => by rw [Bd.returns] at h; cases h)
        refine ⟨_, _, (by rw [← hA0]; exact G332 _ (retN X328 hx (t := .boolean) Bd.returns (by simp) (hb hby at_148) hr)), hrun, hended, _, _, rfl, ?_, hRW.1, hRW.2.1, hRW.2.2.1, hRW.2.2.2.mono (by decide) (by decide)⟩
        exact ⟨rfl, N328⟩
    · have G334 : Go p e below A0 (T297.setTop (mkF m 56 #[.val (.int p0), .val (.ref b178), .val (.int (1 : Int32)), .val (.int (0 : Int32)), .val (.int (1 : Int32)), .val (.int (1 : Int32)), .val (.int (-1 : Int32)), .unset, .unset] [])) := fun tq kq => G301 tq (by
        refine XS.ifNo X297.here hx rfl (hb hby at_38) rfl ((if0 _ _).trans (feq hc302).1) ?_
        show Steps p.tables e below (T297.setTop (mkF m 41 #[.val (.int p0), .val (.ref b178), .val (.int (1 : Int32)), .val (.int (0 : Int32)), .val (.int (1 : Int32)), .unset, .unset, .unset, .unset] [])) _
        refine XS.iconst X297.here hx rfl (hb hby at_41) ?_
        show Steps p.tables e below (T297.setTop (mkF m 42 #[.val (.int p0), .val (.ref b178), .val (.int (1 : Int32)), .val (.int (0 : Int32)), .val (.int (1 : Int32)), .unset, .unset, .unset, .unset] [(.int (1 : Int32))])) _
        refine XS.goto X297.here hx rfl (pc0 := 42) (pc' := 46) rfl (hb hby at_42) (by decide) (by decide) ?_
        show Steps p.tables e below (T297.setTop (mkF m 46 #[.val (.int p0), .val (.ref b178), .val (.int (1 : Int32)), .val (.int (0 : Int32)), .val (.int (1 : Int32)), .unset, .unset, .unset, .unset] [(.int (1 : Int32))])) _
        refine XS.istore X297.here hx rfl (hb hby at_46) rfl (l' := #[.val (.int p0), .val (.ref b178), .val (.int (1 : Int32)), .val (.int (0 : Int32)), .val (.int (1 : Int32)), .val (.int (1 : Int32)), .unset, .unset, .unset]) rfl ?_
        show Steps p.tables e below (T297.setTop (mkF m 48 #[.val (.int p0), .val (.ref b178), .val (.int (1 : Int32)), .val (.int (0 : Int32)), .val (.int (1 : Int32)), .val (.int (1 : Int32)), .unset, .unset, .unset] [])) _
        refine XS.iconst X297.here hx rfl (hb hby at_48) ?_
        show Steps p.tables e below (T297.setTop (mkF m 49 #[.val (.int p0), .val (.ref b178), .val (.int (1 : Int32)), .val (.int (0 : Int32)), .val (.int (1 : Int32)), .val (.int (1 : Int32)), .unset, .unset, .unset] [(.int (-1 : Int32))])) _
        refine XS.istore X297.here hx rfl (hb hby at_49) rfl (l' := #[.val (.int p0), .val (.ref b178), .val (.int (1 : Int32)), .val (.int (0 : Int32)), .val (.int (1 : Int32)), .val (.int (1 : Int32)), .val (.int (-1 : Int32)), .unset, .unset]) rfl ?_
        show Steps p.tables e below (T297.setTop (mkF m 51 #[.val (.int p0), .val (.ref b178), .val (.int (1 : Int32)), .val (.int (0 : Int32)), .val (.int (1 : Int32)), .val (.int (1 : Int32)), .val (.int (-1 : Int32)), .unset, .unset] [])) _
        refine XS.iload X297.here hx rfl (hb hby at_51) rfl ?_
        show Steps p.tables e below (T297.setTop (mkF m 53 #[.val (.int p0), .val (.ref b178), .val (.int (1 : Int32)), .val (.int (0 : Int32)), .val (.int (1 : Int32)), .val (.int (1 : Int32)), .val (.int (-1 : Int32)), .unset, .unset] [(.int (1 : Int32))])) _
        refine XS.ifNo X297.here hx rfl (hb hby at_53) rfl (by decide) ?_
        show Steps p.tables e below (T297.setTop (mkF m 56 #[.val (.int p0), .val (.ref b178), .val (.int (1 : Int32)), .val (.int (0 : Int32)), .val (.int (1 : Int32)), .val (.int (1 : Int32)), .val (.int (-1 : Int32)), .unset, .unset] [])) _
        exact kq)
      have f336 := (Nat.le_trans f298 K297.1)
      obtain ⟨T335, h335, X335, e335, E335, A335, D335, -, st335⟩ := newO X297 hx hZ hown (hw _ (List.mem_of_getElem? (i := 46) rfl)) (hw _ (List.mem_of_getElem? (i := 47) rfl)) (hw _ (List.mem_of_getElem? (i := 48) rfl)) rfl (g := (mkF m 56 #[.val (.int p0), .val (.ref b178), .val (.int (1 : Int32)), .val (.int (0 : Int32)), .val (.int (1 : Int32)), .val (.int (1 : Int32)), .val (.int (-1 : Int32)), .unset, .unset] [])) rfl (hb hby at_56) (by decide) (by decide)
      obtain ⟨b335, g335⟩ : ∃ z, z = T297.heap.size := ⟨_, rfl⟩
      rw [← g335] at A335 D335 st335
      have f337 := (Nat.le_trans (Nat.le_trans (Nat.le_trans (Nat.le_trans (Nat.le_trans (Nat.le_refl h0.size) E178.1) K181.1) K287.1) K292.1) K297.1)
      have sz_b335 : h0.size ≤ b335 := Nat.le_trans f337 (Nat.le_of_eq g335.symm)
      have g_b335 : n0 ≤ b335 := Nat.le_trans f336 (Nat.le_of_eq g335.symm)
      have ne_b178_b335 : b178 ≠ b335 := Nat.ne_of_lt (Nat.lt_of_lt_of_le (f299.keep K297).lt (Nat.le_of_eq g335.symm))
      have F335_juniors : Fld Z h335 b335 "com/example/role_delegation/roledelegation/Role" "juniors" "Ljava/util/List;" .null := D335 (Or.inr (hw _ (List.mem_of_getElem? (i := 86) rfl))) (ty := (.object "java/util/List")) (by decide)
      have F335_permissions : Fld Z h335 b335 "com/example/role_delegation/roledelegation/Role" "permissions" "Ljava/util/Set;" .null := D335 (Or.inr (hw _ (List.mem_of_getElem? (i := 144) rfl))) (ty := (.object "java/util/Set")) (by decide)
      have F335_name : Fld Z h335 b335 "com/example/role_delegation/roledelegation/Role" "name" "Ljava/lang/String;" .null := D335 (Or.inr (hw _ (List.mem_of_getElem? (i := 146) rfl))) (ty := (.object "java/lang/String")) (by decide)
      have F335_hierarchy : Fld Z h335 b335 "com/example/role_delegation/roledelegation/Role" "hierarchy" "Lcom/example/role_delegation/roledelegation/Hierarchy;" .null := D335 (Or.inr (hw _ (List.mem_of_getElem? (i := 148) rfl))) (ty := (.object "com/example/role_delegation/roledelegation/Hierarchy")) (by decide)
      have F335_number : Fld Z h335 b335 "com/example/role_delegation/roledelegation/Role" "number" "I" (.int (0 : Int32)) := D335 (Or.inr (hw _ (List.mem_of_getElem? (i := 151) rfl))) (ty := .int) (by decide)
      have G338 : Go p e below A0 (T335.setTop (mkF m 59 #[.val (.int p0), .val (.ref b178), .val (.int (1 : Int32)), .val (.int (0 : Int32)), .val (.int (1 : Int32)), .val (.int (1 : Int32)), .val (.int (-1 : Int32)), .unset, .unset] [(.ref b335)])) := fun tq kq => G334 tq (st335 _ kq)
      have G339 : Go p e below A0 (T335.setTop (mkF m 60 #[.val (.int p0), .val (.ref b178), .val (.int (1 : Int32)), .val (.int (0 : Int32)), .val (.int (1 : Int32)), .val (.int (1 : Int32)), .val (.int (-1 : Int32)), .unset, .unset] [(.ref b335), (.ref b335)])) := fun tq kq => G338 tq (by
        refine XS.dup X335.here hx rfl (hb hby at_59) rfl rfl ?_
        show Steps p.tables e below (T335.setTop (mkF m 60 #[.val (.int p0), .val (.ref b178), .val (.int (1 : Int32)), .val (.int (0 : Int32)), .val (.int (1 : Int32)), .val (.int (1 : Int32)), .val (.int (-1 : Int32)), .unset, .unset] [(.ref b335), (.ref b335)])) _
        exact kq)
      have f341 := (Nat.le_trans (Nat.le_trans (Nat.le_trans (Nat.le_trans (Nat.le_trans (Nat.le_trans (Nat.zero_le h0.size) E178.1) K181.1) K287.1) K292.1) K297.1) E335.1)
      obtain ⟨a340, T340, h340, k340, X340, e340, E340, hS, hk340, hZ, hown, st340⟩ := ldcS (s := s) (vm0 := s.vm) X335 hx hZ hown (hw _ (List.mem_of_getElem? (i := 49) rfl)) hstr e335 hS f341 (g := (mkF m 60 #[.val (.int p0), .val (.ref b178), .val (.int (1 : Int32)), .val (.int (0 : Int32)), .val (.int (1 : Int32)), .val (.int (1 : Int32)), .val (.int (-1 : Int32)), .unset, .unset] [(.ref b335), (.ref b335)])) rfl (hb hby at_60) (n := 4) (by decide) (by decide) (by decide) (by decide)
      have G342 : Go p e below A0 (T340.setTop (mkF m 62 #[.val (.int p0), .val (.ref b178), .val (.int (1 : Int32)), .val (.int (0 : Int32)), .val (.int (1 : Int32)), .val (.int (1 : Int32)), .val (.int (-1 : Int32)), .unset, .unset] [(.ref a340), (.ref b335), (.ref b335)])) := fun tq kq => G339 tq (st340 _ kq)
      have G343 : Go p e below A0 (T340.setTop (mkF m 63 #[.val (.int p0), .val (.ref b178), .val (.int (1 : Int32)), .val (.int (0 : Int32)), .val (.int (1 : Int32)), .val (.int (1 : Int32)), .val (.int (-1 : Int32)), .unset, .unset] [(.ref b178), (.ref a340), (.ref b335), (.ref b335)])) := fun tq kq => G342 tq (by
        refine XS.aloadN X340.here hx rfl (hb hby at_62) rfl rfl ?_
        show Steps p.tables e below (T340.setTop (mkF m 63 #[.val (.int p0), .val (.ref b178), .val (.int (1 : Int32)), .val (.int (0 : Int32)), .val (.int (1 : Int32)), .val (.int (1 : Int32)), .val (.int (-1 : Int32)), .unset, .unset] [(.ref b178), (.ref a340), (.ref b335), (.ref b335)])) _
        exact kq)
      have f345 := (Nat.le_trans (Nat.le_trans f336 E335.1) E340.1)
      have f346 := (A335.ext E340)
      have f347 := (((f299.keep K297).ext E335).ext E340)
      have f348 := ((Fn297x.ext E335).ext E340)
      have f349 := ((Fc297x.ext E335).ext E340)
      have f350 := (((((((hold.ext E178).keep K181 (allS g_b178 all0)).keep K287 (allS g_b178 all0)).keep K292 (allS g_b178 all0)).keep K297 (allS g_b178 all0)).ext E335).ext E340)
      have f351 := (F335_juniors.ext E340)
      have f352 := (F335_permissions.ext E340)
      have f353 := (F335_name.ext E340)
      have f354 := (F335_hierarchy.ext E340)
      have f355 := (F335_number.ext E340)
      obtain ⟨_, _, ⟨T344, L344, k344, n344⟩, -, X344, ⟨Lc344, hQ344, l344, y344, z344⟩, st344⟩ := X340.specialBack hx (y := (⟨"com/example/role_delegation/roledelegation/Role", "<init>", "(Ljava/lang/String;Lcom/example/role_delegation/roledelegation/Hierarchy;)V"⟩ : MethodName)) rfl hown (mvT hZ (hw _ (List.mem_of_getElem? (i := 57) rfl))) (mvT hZ (hw _ (List.mem_of_getElem? (i := 58) rfl))) (mvT hZ (hw _ (List.mem_of_getElem? (i := 59) rfl))) (by decide) (backOf (W := 1) (rm8 l Z a0 hw [] b335 a340 b178 da (2 : Int32) (1 : Int32) h340 n0 f345 f347 g_b178 f348 f349 f346 g_b335 (Ne.symm ne_b178_b335) f350 hSd f351 f352 f353 f354 f355) hZ (hw _ (List.mem_of_getElem? (i := 59) rfl)) (hw _ (List.mem_of_getElem? (i := 48) rfl)) (by decide) (by decide)) (g := (mkF m 63 #[.val (.int p0), .val (.ref b178), .val (.int (1 : Int32)), .val (.int (0 : Int32)), .val (.int (1 : Int32)), .val (.int (1 : Int32)), .val (.int (-1 : Int32)), .unset, .unset] [(.ref b178), (.ref a340), (.ref b335), (.ref b335)])) rfl (by rw [hml]; rfl) (Steps.refl _) (a := b335) (argsL := [(.ref a340), (.ref b178)]) (rest := [(.ref b335)]) (lenOf pd_6 rfl) rfl (by show 2 * 0 + _ ≤ _; exact Nat.le_of_eq rfl) (hb hby at_63) (fun _ _ => ⟨rfl, e340, (by decide : 5 + 3 ≤ _), (by decide : 25 + 16 ≤ _)⟩)
      dsimp only [Pt.U, Pt.locs, Pt.cells, Pt.slots] at X344 l344 y344 z344 st344 hQ344
      obtain rfl : k344 = 8 := y344
      obtain rfl : n344 = 41 := z344
      obtain ⟨rfl, N344q, K344, Fr344, Fn344, Fc344⟩ := hQ344
      have N344 : Fr n0 L344 := by rw [l344]; exact Fr.app N297 N344q
      have Fn344x : Fld Z T344.heap b178 "com/example/role_delegation/roledelegation/Hierarchy" "numbered" "I" (.int (3 : Int32)) := Fn344
      have G356 : Go p e below A0 (T344.setTop (mkF m 66 #[.val (.int p0), .val (.ref b178), .val (.int (1 : Int32)), .val (.int (0 : Int32)), .val (.int (1 : Int32)), .val (.int (1 : Int32)), .val (.int (-1 : Int32)), .unset, .unset] [(.ref b335)])) := fun tq kq => G343 tq (st344.trans kq)
      have G357 : Go p e below A0 (T344.setTop (mkF m 70 #[.val (.int p0), .val (.ref b178), .val (.int (1 : Int32)), .val (.int (0 : Int32)), .val (.int (1 : Int32)), .val (.int (1 : Int32)), .val (.int (-1 : Int32)), .val (.ref b335), .unset] [(.ref b335)])) := fun tq kq => G356 tq (by
        refine XS.astore X344.here hx rfl (hb hby at_66) rfl rfl (l' := #[.val (.int p0), .val (.ref b178), .val (.int (1 : Int32)), .val (.int (0 : Int32)), .val (.int (1 : Int32)), .val (.int (1 : Int32)), .val (.int (-1 : Int32)), .val (.ref b335), .unset]) rfl ?_
        show Steps p.tables e below (T344.setTop (mkF m 68 #[.val (.int p0), .val (.ref b178), .val (.int (1 : Int32)), .val (.int (0 : Int32)), .val (.int (1 : Int32)), .val (.int (1 : Int32)), .val (.int (-1 : Int32)), .val (.ref b335), .unset] [])) _
        refine XS.aload X344.here hx rfl (hb hby at_68) rfl rfl ?_
        show Steps p.tables e below (T344.setTop (mkF m 70 #[.val (.int p0), .val (.ref b178), .val (.int (1 : Int32)), .val (.int (0 : Int32)), .val (.int (1 : Int32)), .val (.int (1 : Int32)), .val (.int (-1 : Int32)), .val (.ref b335), .unset] [(.ref b335)])) _
        exact kq)
      have f359 := (Nat.le_trans f345 K344.1)
      have f360 := (f346.keep K344)
      obtain ⟨cq358, kq358, q358a, q358b, q358c⟩ := isOf hZ rfl f360
      obtain ⟨_, _, ⟨T358, L358, k358, n358⟩, -, X358, ⟨Lc358, hQ358, l358, y358, z358⟩, st358⟩ := X344.virtualBack hx (y := (⟨"com/example/role_delegation/roledelegation/Role", "number", "()I"⟩ : MethodName)) (z := (⟨"com/example/role_delegation/roledelegation/Role", "number", "()I"⟩ : MethodName)) hown (mvT hZ (hw _ (List.mem_of_getElem? (i := 152) rfl))) (mvT hZ (hw _ (List.mem_of_getElem? (i := 153) rfl))) (notFace_of_selects (args := #[]) (mvT hZ (hw _ (List.mem_of_getElem? (i := 155) rfl)))) (mvT hZ (hw _ (List.mem_of_getElem? (i := 155) rfl))) (mvT hZ (hw _ (List.mem_of_getElem? (i := 154) rfl))) (by decide) (backOf (W := 0) (rm20 l Z a0 hw [] b335 (2 : Int32) T344.heap n0 f359 Fr344) hZ (hw _ (List.mem_of_getElem? (i := 156) rfl)) (hw _ (List.mem_of_getElem? (i := 48) rfl)) (by decide) (by decide)) q358a q358c (g := (mkF m 70 #[.val (.int p0), .val (.ref b178), .val (.int (1 : Int32)), .val (.int (0 : Int32)), .val (.int (1 : Int32)), .val (.int (1 : Int32)), .val (.int (-1 : Int32)), .val (.ref b335), .unset] [(.ref b335)])) rfl (by rw [hml]; rfl) (Steps.refl _) (argsL := []) (rest := []) (lenOf pd_5 rfl) rfl (by show 2 * 0 + _ ≤ _; exact Nat.le_of_eq rfl) (hb hby at_70) (fun _ _ => ⟨rfl, rfl, (by decide : 8 + 0 ≤ _), (by decide : 41 + 0 ≤ _)⟩)
      dsimp only [Pt.U, Pt.locs, Pt.cells, Pt.slots] at X358 l358 y358 z358 st358 hQ358
      obtain rfl : k358 = 8 := y358
      obtain rfl : n358 = 41 := z358
      obtain ⟨rfl, N358q, e358⟩ := hQ358
      have N358 : Fr n0 L358 := by rw [l358]; exact Fr.app N344 N358q
      have G361 : Go p e below A0 (T358.setTop (mkF m 73 #[.val (.int p0), .val (.ref b178), .val (.int (1 : Int32)), .val (.int (0 : Int32)), .val (.int (1 : Int32)), .val (.int (1 : Int32)), .val (.int (-1 : Int32)), .val (.ref b335), .unset] [(.int (2 : Int32))])) := fun tq kq => G357 tq (st358.trans kq)
      have G362 : Go p e below A0 (T358.setTop (mkF m 78 #[.val (.int p0), .val (.ref b178), .val (.int (1 : Int32)), .val (.int (0 : Int32)), .val (.int (1 : Int32)), .val (.int (1 : Int32)), .val (.int (2 : Int32)), .val (.ref b335), .unset] [(.int (p0 &&& (4 : Int32)))])) := fun tq kq => G361 tq (by
        refine XS.istore X358.here hx rfl (hb hby at_73) rfl (l' := #[.val (.int p0), .val (.ref b178), .val (.int (1 : Int32)), .val (.int (0 : Int32)), .val (.int (1 : Int32)), .val (.int (1 : Int32)), .val (.int (2 : Int32)), .val (.ref b335), .unset]) rfl ?_
        show Steps p.tables e below (T358.setTop (mkF m 75 #[.val (.int p0), .val (.ref b178), .val (.int (1 : Int32)), .val (.int (0 : Int32)), .val (.int (1 : Int32)), .val (.int (1 : Int32)), .val (.int (2 : Int32)), .val (.ref b335), .unset] [])) _
        refine XS.iloadN X358.here hx rfl (hb hby at_75) rfl ?_
        show Steps p.tables e below (T358.setTop (mkF m 76 #[.val (.int p0), .val (.ref b178), .val (.int (1 : Int32)), .val (.int (0 : Int32)), .val (.int (1 : Int32)), .val (.int (1 : Int32)), .val (.int (2 : Int32)), .val (.ref b335), .unset] [(.int p0)])) _
        refine XS.iconst X358.here hx rfl (hb hby at_76) ?_
        show Steps p.tables e below (T358.setTop (mkF m 77 #[.val (.int p0), .val (.ref b178), .val (.int (1 : Int32)), .val (.int (0 : Int32)), .val (.int (1 : Int32)), .val (.int (1 : Int32)), .val (.int (2 : Int32)), .val (.ref b335), .unset] [(.int (4 : Int32)), (.int p0)])) _
        refine XS.iand X358.here hx rfl (hb hby at_77) rfl ?_
        show Steps p.tables e below (T358.setTop (mkF m 78 #[.val (.int p0), .val (.ref b178), .val (.int (1 : Int32)), .val (.int (0 : Int32)), .val (.int (1 : Int32)), .val (.int (1 : Int32)), .val (.int (2 : Int32)), .val (.ref b335), .unset] [(.int (p0 &&& (4 : Int32)))])) _
        exact kq)
      by_cases hc363 : (p0 &&& (4 : Int32)) = (0 : Int32)
      · have G364 : Go p e below A0 (T358.setTop (mkF m 90 #[.val (.int p0), .val (.ref b178), .val (.int (1 : Int32)), .val (.int (0 : Int32)), .val (.int (1 : Int32)), .val (.int (1 : Int32)), .val (.int (2 : Int32)), .val (.ref b335), .unset] [(.ref b178)])) := fun tq kq => G362 tq (by
          refine XS.ifYes X358.here hx rfl (pc0 := 78) (pc' := 89) rfl (hb hby at_78) rfl ((if0 _ _).trans (teq hc363).1) (by decide) (by decide) ?_
          show Steps p.tables e below (T358.setTop (mkF m 89 #[.val (.int p0), .val (.ref b178), .val (.int (1 : Int32)), .val (.int (0 : Int32)), .val (.int (1 : Int32)), .val (.int (1 : Int32)), .val (.int (2 : Int32)), .val (.ref b335), .unset] [])) _
          refine XS.aloadN X358.here hx rfl (hb hby at_89) rfl rfl ?_
          show Steps p.tables e below (T358.setTop (mkF m 90 #[.val (.int p0), .val (.ref b178), .val (.int (1 : Int32)), .val (.int (0 : Int32)), .val (.int (1 : Int32)), .val (.int (1 : Int32)), .val (.int (2 : Int32)), .val (.ref b335), .unset] [(.ref b178)])) _
          exact kq)
        have f366 := (f347.keep K344)
        obtain ⟨cq365, kq365, q365a, q365b, q365c⟩ := isOf hZ e358 f366
        obtain ⟨_, _, ⟨T365, L365, k365, n365⟩, -, X365, ⟨Lc365, hQ365, l365, y365, z365⟩, st365⟩ := X358.virtualBack hx (y := (⟨"com/example/role_delegation/roledelegation/Hierarchy", "number", "()I"⟩ : MethodName)) (z := (⟨"com/example/role_delegation/roledelegation/Hierarchy", "number", "()I"⟩ : MethodName)) hown (mvT hZ (hw _ (List.mem_of_getElem? (i := 27) rfl))) (mvT hZ (hw _ (List.mem_of_getElem? (i := 28) rfl))) (notFace_of_selects (args := #[]) (mvT hZ (hw _ (List.mem_of_getElem? (i := 30) rfl)))) (mvT hZ (hw _ (List.mem_of_getElem? (i := 30) rfl))) (mvT hZ (hw _ (List.mem_of_getElem? (i := 29) rfl))) (by decide) (backOf (W := 0) (rm5 l Z a0 hw [] b178 (3 : Int32) (1 : Int32) T344.heap n0 f359 f366 g_b178 Fn344x Fc344 ) hZ (hw _ (List.mem_of_getElem? (i := 31) rfl)) (hw _ (List.mem_of_getElem? (i := 2) rfl)) (by decide) (by decide)) q365a q365c (g := (mkF m 90 #[.val (.int p0), .val (.ref b178), .val (.int (1 : Int32)), .val (.int (0 : Int32)), .val (.int (1 : Int32)), .val (.int (1 : Int32)), .val (.int (2 : Int32)), .val (.ref b335), .unset] [(.ref b178)])) rfl (by rw [hml]; rfl) (Steps.refl _) (argsL := []) (rest := []) (lenOf pd_5 rfl) rfl (by show 2 * 0 + _ ≤ _; exact Nat.le_of_eq rfl) (hb hby at_90) (fun _ _ => ⟨rfl, e358, (by decide : 8 + 0 ≤ _), (by decide : 41 + 0 ≤ _)⟩)
        dsimp only [Pt.U, Pt.locs, Pt.cells, Pt.slots] at X365 l365 y365 z365 st365 hQ365
        obtain rfl : k365 = 8 := y365
        obtain rfl : n365 = 41 := z365
        obtain ⟨rfl, N365q, K365, Fn365, Fc365⟩ := hQ365
        have N365 : Fr n0 L365 := by rw [l365]; exact Fr.app N358 N365q
        have Fn365x : Fld Z T365.heap b178 "com/example/role_delegation/roledelegation/Hierarchy" "numbered" "I" (.int (4 : Int32)) := Fn365
        have Fc365x : Fld Z T365.heap b178 "com/example/role_delegation/roledelegation/Hierarchy" "changes" "I" (.int (1 : Int32)) := Fc365
        have G367 : Go p e below A0 (T365.setTop (mkF m 93 #[.val (.int p0), .val (.ref b178), .val (.int (1 : Int32)), .val (.int (0 : Int32)), .val (.int (1 : Int32)), .val (.int (1 : Int32)), .val (.int (2 : Int32)), .val (.ref b335), .unset] [(.int (3 : Int32))])) := fun tq kq => G364 tq (st365.trans kq)
        have G368 : Go p e below A0 (T365.setTop (mkF m 136 #[.val (.int p0), .val (.ref b178), .val (.int (1 : Int32)), .val (.int (0 : Int32)), .val (.int (1 : Int32)), .val (.int (1 : Int32)), .val (.int (2 : Int32)), .val (.int (3 : Int32)), .val (.int (3 : Int32))] [(.ref b178)])) := fun tq kq => G367 tq (by
          refine XS.istore X365.here hx rfl (hb hby at_93) rfl (l' := #[.val (.int p0), .val (.ref b178), .val (.int (1 : Int32)), .val (.int (0 : Int32)), .val (.int (1 : Int32)), .val (.int (1 : Int32)), .val (.int (2 : Int32)), .val (.int (3 : Int32)), .unset]) rfl ?_
          show Steps p.tables e below (T365.setTop (mkF m 95 #[.val (.int p0), .val (.ref b178), .val (.int (1 : Int32)), .val (.int (0 : Int32)), .val (.int (1 : Int32)), .val (.int (1 : Int32)), .val (.int (2 : Int32)), .val (.int (3 : Int32)), .unset] [])) _
          refine XS.iload X365.here hx rfl (hb hby at_95) rfl ?_
          show Steps p.tables e below (T365.setTop (mkF m 97 #[.val (.int p0), .val (.ref b178), .val (.int (1 : Int32)), .val (.int (0 : Int32)), .val (.int (1 : Int32)), .val (.int (1 : Int32)), .val (.int (2 : Int32)), .val (.int (3 : Int32)), .unset] [(.int (1 : Int32))])) _
          refine XS.ifNo X365.here hx rfl (hb hby at_97) rfl (by decide) ?_
          show Steps p.tables e below (T365.setTop (mkF m 100 #[.val (.int p0), .val (.ref b178), .val (.int (1 : Int32)), .val (.int (0 : Int32)), .val (.int (1 : Int32)), .val (.int (1 : Int32)), .val (.int (2 : Int32)), .val (.int (3 : Int32)), .unset] [])) _
          refine XS.iconst X365.here hx rfl (hb hby at_100) ?_
          show Steps p.tables e below (T365.setTop (mkF m 101 #[.val (.int p0), .val (.ref b178), .val (.int (1 : Int32)), .val (.int (0 : Int32)), .val (.int (1 : Int32)), .val (.int (1 : Int32)), .val (.int (2 : Int32)), .val (.int (3 : Int32)), .unset] [(.int (3 : Int32))])) _
          refine XS.goto X365.here hx rfl (pc0 := 101) (pc' := 105) rfl (hb hby at_101) (by decide) (by decide) ?_
          show Steps p.tables e below (T365.setTop (mkF m 105 #[.val (.int p0), .val (.ref b178), .val (.int (1 : Int32)), .val (.int (0 : Int32)), .val (.int (1 : Int32)), .val (.int (1 : Int32)), .val (.int (2 : Int32)), .val (.int (3 : Int32)), .unset] [(.int (3 : Int32))])) _
          refine XS.istore X365.here hx rfl (hb hby at_105) rfl (l' := #[.val (.int p0), .val (.ref b178), .val (.int (1 : Int32)), .val (.int (0 : Int32)), .val (.int (1 : Int32)), .val (.int (1 : Int32)), .val (.int (2 : Int32)), .val (.int (3 : Int32)), .val (.int (3 : Int32))]) rfl ?_
          show Steps p.tables e below (T365.setTop (mkF m 107 #[.val (.int p0), .val (.ref b178), .val (.int (1 : Int32)), .val (.int (0 : Int32)), .val (.int (1 : Int32)), .val (.int (1 : Int32)), .val (.int (2 : Int32)), .val (.int (3 : Int32)), .val (.int (3 : Int32))] [])) _
          refine XS.iloadN X365.here hx rfl (hb hby at_107) rfl ?_
          show Steps p.tables e below (T365.setTop (mkF m 108 #[.val (.int p0), .val (.ref b178), .val (.int (1 : Int32)), .val (.int (0 : Int32)), .val (.int (1 : Int32)), .val (.int (1 : Int32)), .val (.int (2 : Int32)), .val (.int (3 : Int32)), .val (.int (3 : Int32))] [(.int (0 : Int32))])) _
          refine XS.ifNo X365.here hx rfl (hb hby at_108) rfl (by decide) ?_
          show Steps p.tables e below (T365.setTop (mkF m 111 #[.val (.int p0), .val (.ref b178), .val (.int (1 : Int32)), .val (.int (0 : Int32)), .val (.int (1 : Int32)), .val (.int (1 : Int32)), .val (.int (2 : Int32)), .val (.int (3 : Int32)), .val (.int (3 : Int32))] [])) _
          refine XS.iload X365.here hx rfl (hb hby at_111) rfl ?_
          show Steps p.tables e below (T365.setTop (mkF m 113 #[.val (.int p0), .val (.ref b178), .val (.int (1 : Int32)), .val (.int (0 : Int32)), .val (.int (1 : Int32)), .val (.int (1 : Int32)), .val (.int (2 : Int32)), .val (.int (3 : Int32)), .val (.int (3 : Int32))] [(.int (1 : Int32))])) _
          refine XS.iconst X365.here hx rfl (hb hby at_113) ?_
          show Steps p.tables e below (T365.setTop (mkF m 114 #[.val (.int p0), .val (.ref b178), .val (.int (1 : Int32)), .val (.int (0 : Int32)), .val (.int (1 : Int32)), .val (.int (1 : Int32)), .val (.int (2 : Int32)), .val (.int (3 : Int32)), .val (.int (3 : Int32))] [(.int (1 : Int32)), (.int (1 : Int32))])) _
          refine XS.icmpNo X365.here hx rfl (hb hby at_114) rfl (by decide) ?_
          show Steps p.tables e below (T365.setTop (mkF m 117 #[.val (.int p0), .val (.ref b178), .val (.int (1 : Int32)), .val (.int (0 : Int32)), .val (.int (1 : Int32)), .val (.int (1 : Int32)), .val (.int (2 : Int32)), .val (.int (3 : Int32)), .val (.int (3 : Int32))] [])) _
          refine XS.iload X365.here hx rfl (hb hby at_117) rfl ?_
          show Steps p.tables e below (T365.setTop (mkF m 119 #[.val (.int p0), .val (.ref b178), .val (.int (1 : Int32)), .val (.int (0 : Int32)), .val (.int (1 : Int32)), .val (.int (1 : Int32)), .val (.int (2 : Int32)), .val (.int (3 : Int32)), .val (.int (3 : Int32))] [(.int (1 : Int32))])) _
          refine XS.ifNo X365.here hx rfl (hb hby at_119) rfl (by decide) ?_
          show Steps p.tables e below (T365.setTop (mkF m 122 #[.val (.int p0), .val (.ref b178), .val (.int (1 : Int32)), .val (.int (0 : Int32)), .val (.int (1 : Int32)), .val (.int (1 : Int32)), .val (.int (2 : Int32)), .val (.int (3 : Int32)), .val (.int (3 : Int32))] [])) _
          refine XS.iload X365.here hx rfl (hb hby at_122) rfl ?_
          show Steps p.tables e below (T365.setTop (mkF m 124 #[.val (.int p0), .val (.ref b178), .val (.int (1 : Int32)), .val (.int (0 : Int32)), .val (.int (1 : Int32)), .val (.int (1 : Int32)), .val (.int (2 : Int32)), .val (.int (3 : Int32)), .val (.int (3 : Int32))] [(.int (2 : Int32))])) _
          refine XS.iconst X365.here hx rfl (hb hby at_124) ?_
          show Steps p.tables e below (T365.setTop (mkF m 125 #[.val (.int p0), .val (.ref b178), .val (.int (1 : Int32)), .val (.int (0 : Int32)), .val (.int (1 : Int32)), .val (.int (1 : Int32)), .val (.int (2 : Int32)), .val (.int (3 : Int32)), .val (.int (3 : Int32))] [(.int (2 : Int32)), (.int (2 : Int32))])) _
          refine XS.icmpNo X365.here hx rfl (hb hby at_125) rfl (by decide) ?_
          show Steps p.tables e below (T365.setTop (mkF m 128 #[.val (.int p0), .val (.ref b178), .val (.int (1 : Int32)), .val (.int (0 : Int32)), .val (.int (1 : Int32)), .val (.int (1 : Int32)), .val (.int (2 : Int32)), .val (.int (3 : Int32)), .val (.int (3 : Int32))] [])) _
          refine XS.iload X365.here hx rfl (hb hby at_128) rfl ?_
          show Steps p.tables e below (T365.setTop (mkF m 130 #[.val (.int p0), .val (.ref b178), .val (.int (1 : Int32)), .val (.int (0 : Int32)), .val (.int (1 : Int32)), .val (.int (1 : Int32)), .val (.int (2 : Int32)), .val (.int (3 : Int32)), .val (.int (3 : Int32))] [(.int (3 : Int32))])) _
          refine XS.iload X365.here hx rfl (hb hby at_130) rfl ?_
          show Steps p.tables e below (T365.setTop (mkF m 132 #[.val (.int p0), .val (.ref b178), .val (.int (1 : Int32)), .val (.int (0 : Int32)), .val (.int (1 : Int32)), .val (.int (1 : Int32)), .val (.int (2 : Int32)), .val (.int (3 : Int32)), .val (.int (3 : Int32))] [(.int (3 : Int32)), (.int (3 : Int32))])) _
          refine XS.icmpNo X365.here hx rfl (hb hby at_132) rfl (by decide) ?_
          show Steps p.tables e below (T365.setTop (mkF m 135 #[.val (.int p0), .val (.ref b178), .val (.int (1 : Int32)), .val (.int (0 : Int32)), .val (.int (1 : Int32)), .val (.int (1 : Int32)), .val (.int (2 : Int32)), .val (.int (3 : Int32)), .val (.int (3 : Int32))] [])) _
          refine XS.aloadN X365.here hx rfl (hb hby at_135) rfl rfl ?_
          show Steps p.tables e below (T365.setTop (mkF m 136 #[.val (.int p0), .val (.ref b178), .val (.int (1 : Int32)), .val (.int (0 : Int32)), .val (.int (1 : Int32)), .val (.int (1 : Int32)), .val (.int (2 : Int32)), .val (.int (3 : Int32)), .val (.int (3 : Int32))] [(.ref b178)])) _
          exact kq)
        have f370 := (Nat.le_trans f359 K365.1)
        have f371 := (f366.keep K365)
        obtain ⟨cq369, kq369, q369a, q369b, q369c⟩ := isOf hZ rfl f371
        obtain ⟨_, _, ⟨T369, L369, k369, n369⟩, -, X369, ⟨Lc369, hQ369, l369, y369, z369⟩, st369⟩ := X365.virtualBack hx (y := (⟨"com/example/role_delegation/roledelegation/Hierarchy", "changes", "()I"⟩ : MethodName)) (z := (⟨"com/example/role_delegation/roledelegation/Hierarchy", "changes", "()I"⟩ : MethodName)) hown (mvT hZ (hw _ (List.mem_of_getElem? (i := 34) rfl))) (mvT hZ (hw _ (List.mem_of_getElem? (i := 35) rfl))) (notFace_of_selects (args := #[]) (mvT hZ (hw _ (List.mem_of_getElem? (i := 37) rfl)))) (mvT hZ (hw _ (List.mem_of_getElem? (i := 37) rfl))) (mvT hZ (hw _ (List.mem_of_getElem? (i := 36) rfl))) (by decide) (backOf (W := 0) (rm6 l Z a0 hw [] b178 (4 : Int32) (1 : Int32) T365.heap n0 f370 f371 g_b178 Fn365x Fc365x) hZ (hw _ (List.mem_of_getElem? (i := 38) rfl)) (hw _ (List.mem_of_getElem? (i := 2) rfl)) (by decide) (by decide)) q369a q369c (g := (mkF m 136 #[.val (.int p0), .val (.ref b178), .val (.int (1 : Int32)), .val (.int (0 : Int32)), .val (.int (1 : Int32)), .val (.int (1 : Int32)), .val (.int (2 : Int32)), .val (.int (3 : Int32)), .val (.int (3 : Int32))] [(.ref b178)])) rfl (by rw [hml]; rfl) (Steps.refl _) (argsL := []) (rest := []) (lenOf pd_5 rfl) rfl (by show 2 * 0 + _ ≤ _; exact Nat.le_of_eq rfl) (hb hby at_136) (fun _ _ => ⟨rfl, rfl, (by decide : 8 + 0 ≤ _), (by decide : 41 + 0 ≤ _)⟩)
        dsimp only [Pt.U, Pt.locs, Pt.cells, Pt.slots] at X369 l369 y369 z369 st369 hQ369
        obtain rfl : k369 = 8 := y369
        obtain rfl : n369 = 41 := z369
        obtain ⟨rfl, N369q, e369⟩ := hQ369
        have N369 : Fr n0 L369 := by rw [l369]; exact Fr.app N365 N369q
        have G372 : Go p e below A0 (T369.setTop (mkF m 139 #[.val (.int p0), .val (.ref b178), .val (.int (1 : Int32)), .val (.int (0 : Int32)), .val (.int (1 : Int32)), .val (.int (1 : Int32)), .val (.int (2 : Int32)), .val (.int (3 : Int32)), .val (.int (3 : Int32))] [(.int (1 : Int32))])) := fun tq kq => G368 tq (st369.trans kq)
        have G373 : Go p e below A0 (T369.setTop (mkF m 148 #[.val (.int p0), .val (.ref b178), .val (.int (1 : Int32)), .val (.int (0 : Int32)), .val (.int (1 : Int32)), .val (.int (1 : Int32)), .val (.int (2 : Int32)), .val (.int (3 : Int32)), .val (.int (3 : Int32))] [(.int (1 : Int32))])) := fun tq kq => G372 tq (by
          refine XS.iloadN X369.here hx rfl (hb hby at_139) rfl ?_
          show Steps p.tables e below (T369.setTop (mkF m 140 #[.val (.int p0), .val (.ref b178), .val (.int (1 : Int32)), .val (.int (0 : Int32)), .val (.int (1 : Int32)), .val (.int (1 : Int32)), .val (.int (2 : Int32)), .val (.int (3 : Int32)), .val (.int (3 : Int32))] [(.int (1 : Int32)), (.int (1 : Int32))])) _
          refine XS.icmpNo X369.here hx rfl (hb hby at_140) rfl (by decide) ?_
          show Steps p.tables e below (T369.setTop (mkF m 143 #[.val (.int p0), .val (.ref b178), .val (.int (1 : Int32)), .val (.int (0 : Int32)), .val (.int (1 : Int32)), .val (.int (1 : Int32)), .val (.int (2 : Int32)), .val (.int (3 : Int32)), .val (.int (3 : Int32))] [])) _
          refine XS.iconst X369.here hx rfl (hb hby at_143) ?_
          show Steps p.tables e below (T369.setTop (mkF m 144 #[.val (.int p0), .val (.ref b178), .val (.int (1 : Int32)), .val (.int (0 : Int32)), .val (.int (1 : Int32)), .val (.int (1 : Int32)), .val (.int (2 : Int32)), .val (.int (3 : Int32)), .val (.int (3 : Int32))] [(.int (1 : Int32))])) _
          refine XS.goto X369.here hx rfl (pc0 := 144) (pc' := 148) rfl (hb hby at_144) (by decide) (by decide) ?_
          show Steps p.tables e below (T369.setTop (mkF m 148 #[.val (.int p0), .val (.ref b178), .val (.int (1 : Int32)), .val (.int (0 : Int32)), .val (.int (1 : Int32)), .val (.int (1 : Int32)), .val (.int (2 : Int32)), .val (.int (3 : Int32)), .val (.int (3 : Int32))] [(.int (1 : Int32))])) _
          exact kq)
        have f374 := (Nat.le_trans (Nat.le_trans hk340 K344.1) K365.1)
        obtain ⟨fs, hr, hrun, hended, hRW⟩ := X369.leaveW (s := s) (vm₁ := T340.vm) hS (by rw [e369]; exact f374) (v := some (.int (nar .boolean (1 : Int32)))) (fun h => by rw [Bd.returns] at h; cases h)
        refine ⟨_, _, (by rw [← hA0]; exact G373 _ (retN X369 hx (t := .boolean) Bd.returns (by simp) (hb hby at_148) hr)), hrun, hended, _, _, rfl, ?_, hRW.1, hRW.2.1, hRW.2.2.1, hRW.2.2.2.mono (by decide) (by decide)⟩
        exact ⟨rfl, N369⟩
      · have G375 : Go p e below A0 (T358.setTop (mkF m 82 #[.val (.int p0), .val (.ref b178), .val (.int (1 : Int32)), .val (.int (0 : Int32)), .val (.int (1 : Int32)), .val (.int (1 : Int32)), .val (.int (2 : Int32)), .val (.ref b335), .unset] [(.ref b178)])) := fun tq kq => G362 tq (by
          refine XS.ifNo X358.here hx rfl (hb hby at_78) rfl ((if0 _ _).trans (feq hc363).1) ?_
          show Steps p.tables e below (T358.setTop (mkF m 81 #[.val (.int p0), .val (.ref b178), .val (.int (1 : Int32)), .val (.int (0 : Int32)), .val (.int (1 : Int32)), .val (.int (1 : Int32)), .val (.int (2 : Int32)), .val (.ref b335), .unset] [])) _
          refine XS.aloadN X358.here hx rfl (hb hby at_81) rfl rfl ?_
          show Steps p.tables e below (T358.setTop (mkF m 82 #[.val (.int p0), .val (.ref b178), .val (.int (1 : Int32)), .val (.int (0 : Int32)), .val (.int (1 : Int32)), .val (.int (1 : Int32)), .val (.int (2 : Int32)), .val (.ref b335), .unset] [(.ref b178)])) _
          exact kq)
        have f377 := (f347.keep K344)
        obtain ⟨cq376, kq376, q376a, q376b, q376c⟩ := isOf hZ e358 f377
        obtain ⟨_, _, ⟨T376, L376, k376, n376⟩, -, X376, ⟨Lc376, hQ376, l376, y376, z376⟩, st376⟩ := X358.virtualBack hx (y := (⟨"com/example/role_delegation/roledelegation/Hierarchy", "changed", "()V"⟩ : MethodName)) (z := (⟨"com/example/role_delegation/roledelegation/Hierarchy", "changed", "()V"⟩ : MethodName)) hown (mvT hZ (hw _ (List.mem_of_getElem? (i := 41) rfl))) (mvT hZ (hw _ (List.mem_of_getElem? (i := 42) rfl))) (notFace_of_selects (args := #[]) (mvT hZ (hw _ (List.mem_of_getElem? (i := 44) rfl)))) (mvT hZ (hw _ (List.mem_of_getElem? (i := 44) rfl))) (mvT hZ (hw _ (List.mem_of_getElem? (i := 43) rfl))) (by decide) (backOf (W := 0) (rm7 l Z a0 hw [] b178 (3 : Int32) (1 : Int32) T344.heap n0 f359 f377 g_b178 Fn344x Fc344 ) hZ (hw _ (List.mem_of_getElem? (i := 45) rfl)) (hw _ (List.mem_of_getElem? (i := 2) rfl)) (by decide) (by decide)) q376a q376c (g := (mkF m 82 #[.val (.int p0), .val (.ref b178), .val (.int (1 : Int32)), .val (.int (0 : Int32)), .val (.int (1 : Int32)), .val (.int (1 : Int32)), .val (.int (2 : Int32)), .val (.ref b335), .unset] [(.ref b178)])) rfl (by rw [hml]; rfl) (Steps.refl _) (argsL := []) (rest := []) (lenOf pd_0 rfl) rfl (by show 2 * 0 + _ ≤ _; exact Nat.le_of_eq rfl) (hb hby at_82) (fun _ _ => ⟨rfl, e358, (by decide : 8 + 0 ≤ _), (by decide : 41 + 0 ≤ _)⟩)
        dsimp only [Pt.U, Pt.locs, Pt.cells, Pt.slots] at X376 l376 y376 z376 st376 hQ376
        obtain rfl : k376 = 8 := y376
        obtain rfl : n376 = 41 := z376
        obtain ⟨rfl, N376q, K376, Fn376, Fc376⟩ := hQ376
        have N376 : Fr n0 L376 := by rw [l376]; exact Fr.app N358 N376q
        have Fn376x : Fld Z T376.heap b178 "com/example/role_delegation/roledelegation/Hierarchy" "numbered" "I" (.int (3 : Int32)) := Fn376
        have Fc376x : Fld Z T376.heap b178 "com/example/role_delegation/roledelegation/Hierarchy" "changes" "I" (.int (2 : Int32)) := Fc376
        have G378 : Go p e below A0 (T376.setTop (mkF m 85 #[.val (.int p0), .val (.ref b178), .val (.int (1 : Int32)), .val (.int (0 : Int32)), .val (.int (1 : Int32)), .val (.int (1 : Int32)), .val (.int (2 : Int32)), .val (.ref b335), .unset] [])) := fun tq kq => G375 tq (st376.trans kq)
        have G379 : Go p e below A0 (T376.setTop (mkF m 90 #[.val (.int p0), .val (.ref b178), .val (.int (2 : Int32)), .val (.int (0 : Int32)), .val (.int (1 : Int32)), .val (.int (1 : Int32)), .val (.int (2 : Int32)), .val (.ref b335), .unset] [(.ref b178)])) := fun tq kq => G378 tq (by
          refine XS.iloadN X376.here hx rfl (hb hby at_85) rfl ?_
          show Steps p.tables e below (T376.setTop (mkF m 86 #[.val (.int p0), .val (.ref b178), .val (.int (1 : Int32)), .val (.int (0 : Int32)), .val (.int (1 : Int32)), .val (.int (1 : Int32)), .val (.int (2 : Int32)), .val (.ref b335), .unset] [(.int (1 : Int32))])) _
          refine XS.iconst X376.here hx rfl (hb hby at_86) ?_
          show Steps p.tables e below (T376.setTop (mkF m 87 #[.val (.int p0), .val (.ref b178), .val (.int (1 : Int32)), .val (.int (0 : Int32)), .val (.int (1 : Int32)), .val (.int (1 : Int32)), .val (.int (2 : Int32)), .val (.ref b335), .unset] [(.int (1 : Int32)), (.int (1 : Int32))])) _
          refine XS.iadd X376.here hx rfl (hb hby at_87) rfl ?_
          show Steps p.tables e below (T376.setTop (mkF m 88 #[.val (.int p0), .val (.ref b178), .val (.int (1 : Int32)), .val (.int (0 : Int32)), .val (.int (1 : Int32)), .val (.int (1 : Int32)), .val (.int (2 : Int32)), .val (.ref b335), .unset] [(.int ((1 : Int32) + (1 : Int32)))])) _
          rw [show ((1 : Int32) + (1 : Int32)) = (2 : Int32) from (by decide : ((1 : Int32) + (1 : Int32)) = (2 : Int32))]
          show Steps p.tables e below (T376.setTop (mkF m 88 #[.val (.int p0), .val (.ref b178), .val (.int (1 : Int32)), .val (.int (0 : Int32)), .val (.int (1 : Int32)), .val (.int (1 : Int32)), .val (.int (2 : Int32)), .val (.ref b335), .unset] [(.int (2 : Int32))])) _
          refine XS.istoreN X376.here hx rfl (hb hby at_88) rfl (l' := #[.val (.int p0), .val (.ref b178), .val (.int (2 : Int32)), .val (.int (0 : Int32)), .val (.int (1 : Int32)), .val (.int (1 : Int32)), .val (.int (2 : Int32)), .val (.ref b335), .unset]) rfl ?_
          show Steps p.tables e below (T376.setTop (mkF m 89 #[.val (.int p0), .val (.ref b178), .val (.int (2 : Int32)), .val (.int (0 : Int32)), .val (.int (1 : Int32)), .val (.int (1 : Int32)), .val (.int (2 : Int32)), .val (.ref b335), .unset] [])) _
          refine XS.aloadN X376.here hx rfl (hb hby at_89) rfl rfl ?_
          show Steps p.tables e below (T376.setTop (mkF m 90 #[.val (.int p0), .val (.ref b178), .val (.int (2 : Int32)), .val (.int (0 : Int32)), .val (.int (1 : Int32)), .val (.int (1 : Int32)), .val (.int (2 : Int32)), .val (.ref b335), .unset] [(.ref b178)])) _
          exact kq)
        have f381 := (Nat.le_trans f359 K376.1)
        have f382 := (f377.keep K376)
        obtain ⟨cq380, kq380, q380a, q380b, q380c⟩ := isOf hZ rfl f382
        obtain ⟨_, _, ⟨T380, L380, k380, n380⟩, -, X380, ⟨Lc380, hQ380, l380, y380, z380⟩, st380⟩ := X376.virtualBack hx (y := (⟨"com/example/role_delegation/roledelegation/Hierarchy", "number", "()I"⟩ : MethodName)) (z := (⟨"com/example/role_delegation/roledelegation/Hierarchy", "number", "()I"⟩ : MethodName)) hown (mvT hZ (hw _ (List.mem_of_getElem? (i := 27) rfl))) (mvT hZ (hw _ (List.mem_of_getElem? (i := 28) rfl))) (notFace_of_selects (args := #[]) (mvT hZ (hw _ (List.mem_of_getElem? (i := 30) rfl)))) (mvT hZ (hw _ (List.mem_of_getElem? (i := 30) rfl))) (mvT hZ (hw _ (List.mem_of_getElem? (i := 29) rfl))) (by decide) (backOf (W := 0) (rm5 l Z a0 hw [] b178 (3 : Int32) (2 : Int32) T376.heap n0 f381 f382 g_b178 Fn376x Fc376x ) hZ (hw _ (List.mem_of_getElem? (i := 31) rfl)) (hw _ (List.mem_of_getElem? (i := 2) rfl)) (by decide) (by decide)) q380a q380c (g := (mkF m 90 #[.val (.int p0), .val (.ref b178), .val (.int (2 : Int32)), .val (.int (0 : Int32)), .val (.int (1 : Int32)), .val (.int (1 : Int32)), .val (.int (2 : Int32)), .val (.ref b335), .unset] [(.ref b178)])) rfl (by rw [hml]; rfl) (Steps.refl _) (argsL := []) (rest := []) (lenOf pd_5 rfl) rfl (by show 2 * 0 + _ ≤ _; exact Nat.le_of_eq rfl) (hb hby at_90) (fun _ _ => ⟨rfl, rfl, (by decide : 8 + 0 ≤ _), (by decide : 41 + 0 ≤ _)⟩)
        dsimp only [Pt.U, Pt.locs, Pt.cells, Pt.slots] at X380 l380 y380 z380 st380 hQ380
        obtain rfl : k380 = 8 := y380
        obtain rfl : n380 = 41 := z380
        obtain ⟨rfl, N380q, K380, Fn380, Fc380⟩ := hQ380
        have N380 : Fr n0 L380 := by rw [l380]; exact Fr.app N376 N380q
        have Fn380x : Fld Z T380.heap b178 "com/example/role_delegation/roledelegation/Hierarchy" "numbered" "I" (.int (4 : Int32)) := Fn380
        have Fc380x : Fld Z T380.heap b178 "com/example/role_delegation/roledelegation/Hierarchy" "changes" "I" (.int (2 : Int32)) := Fc380
        have G383 : Go p e below A0 (T380.setTop (mkF m 93 #[.val (.int p0), .val (.ref b178), .val (.int (2 : Int32)), .val (.int (0 : Int32)), .val (.int (1 : Int32)), .val (.int (1 : Int32)), .val (.int (2 : Int32)), .val (.ref b335), .unset] [(.int (3 : Int32))])) := fun tq kq => G379 tq (st380.trans kq)
        have G384 : Go p e below A0 (T380.setTop (mkF m 136 #[.val (.int p0), .val (.ref b178), .val (.int (2 : Int32)), .val (.int (0 : Int32)), .val (.int (1 : Int32)), .val (.int (1 : Int32)), .val (.int (2 : Int32)), .val (.int (3 : Int32)), .val (.int (3 : Int32))] [(.ref b178)])) := fun tq kq => G383 tq (by
          refine XS.istore X380.here hx rfl (hb hby at_93) rfl (l' := #[.val (.int p0), .val (.ref b178), .val (.int (2 : Int32)), .val (.int (0 : Int32)), .val (.int (1 : Int32)), .val (.int (1 : Int32)), .val (.int (2 : Int32)), .val (.int (3 : Int32)), .unset]) rfl ?_
          show Steps p.tables e below (T380.setTop (mkF m 95 #[.val (.int p0), .val (.ref b178), .val (.int (2 : Int32)), .val (.int (0 : Int32)), .val (.int (1 : Int32)), .val (.int (1 : Int32)), .val (.int (2 : Int32)), .val (.int (3 : Int32)), .unset] [])) _
          refine XS.iload X380.here hx rfl (hb hby at_95) rfl ?_
          show Steps p.tables e below (T380.setTop (mkF m 97 #[.val (.int p0), .val (.ref b178), .val (.int (2 : Int32)), .val (.int (0 : Int32)), .val (.int (1 : Int32)), .val (.int (1 : Int32)), .val (.int (2 : Int32)), .val (.int (3 : Int32)), .unset] [(.int (1 : Int32))])) _
          refine XS.ifNo X380.here hx rfl (hb hby at_97) rfl (by decide) ?_
          show Steps p.tables e below (T380.setTop (mkF m 100 #[.val (.int p0), .val (.ref b178), .val (.int (2 : Int32)), .val (.int (0 : Int32)), .val (.int (1 : Int32)), .val (.int (1 : Int32)), .val (.int (2 : Int32)), .val (.int (3 : Int32)), .unset] [])) _
          refine XS.iconst X380.here hx rfl (hb hby at_100) ?_
          show Steps p.tables e below (T380.setTop (mkF m 101 #[.val (.int p0), .val (.ref b178), .val (.int (2 : Int32)), .val (.int (0 : Int32)), .val (.int (1 : Int32)), .val (.int (1 : Int32)), .val (.int (2 : Int32)), .val (.int (3 : Int32)), .unset] [(.int (3 : Int32))])) _
          refine XS.goto X380.here hx rfl (pc0 := 101) (pc' := 105) rfl (hb hby at_101) (by decide) (by decide) ?_
          show Steps p.tables e below (T380.setTop (mkF m 105 #[.val (.int p0), .val (.ref b178), .val (.int (2 : Int32)), .val (.int (0 : Int32)), .val (.int (1 : Int32)), .val (.int (1 : Int32)), .val (.int (2 : Int32)), .val (.int (3 : Int32)), .unset] [(.int (3 : Int32))])) _
          refine XS.istore X380.here hx rfl (hb hby at_105) rfl (l' := #[.val (.int p0), .val (.ref b178), .val (.int (2 : Int32)), .val (.int (0 : Int32)), .val (.int (1 : Int32)), .val (.int (1 : Int32)), .val (.int (2 : Int32)), .val (.int (3 : Int32)), .val (.int (3 : Int32))]) rfl ?_
          show Steps p.tables e below (T380.setTop (mkF m 107 #[.val (.int p0), .val (.ref b178), .val (.int (2 : Int32)), .val (.int (0 : Int32)), .val (.int (1 : Int32)), .val (.int (1 : Int32)), .val (.int (2 : Int32)), .val (.int (3 : Int32)), .val (.int (3 : Int32))] [])) _
          refine XS.iloadN X380.here hx rfl (hb hby at_107) rfl ?_
          show Steps p.tables e below (T380.setTop (mkF m 108 #[.val (.int p0), .val (.ref b178), .val (.int (2 : Int32)), .val (.int (0 : Int32)), .val (.int (1 : Int32)), .val (.int (1 : Int32)), .val (.int (2 : Int32)), .val (.int (3 : Int32)), .val (.int (3 : Int32))] [(.int (0 : Int32))])) _
          refine XS.ifNo X380.here hx rfl (hb hby at_108) rfl (by decide) ?_
          show Steps p.tables e below (T380.setTop (mkF m 111 #[.val (.int p0), .val (.ref b178), .val (.int (2 : Int32)), .val (.int (0 : Int32)), .val (.int (1 : Int32)), .val (.int (1 : Int32)), .val (.int (2 : Int32)), .val (.int (3 : Int32)), .val (.int (3 : Int32))] [])) _
          refine XS.iload X380.here hx rfl (hb hby at_111) rfl ?_
          show Steps p.tables e below (T380.setTop (mkF m 113 #[.val (.int p0), .val (.ref b178), .val (.int (2 : Int32)), .val (.int (0 : Int32)), .val (.int (1 : Int32)), .val (.int (1 : Int32)), .val (.int (2 : Int32)), .val (.int (3 : Int32)), .val (.int (3 : Int32))] [(.int (1 : Int32))])) _
          refine XS.iconst X380.here hx rfl (hb hby at_113) ?_
          show Steps p.tables e below (T380.setTop (mkF m 114 #[.val (.int p0), .val (.ref b178), .val (.int (2 : Int32)), .val (.int (0 : Int32)), .val (.int (1 : Int32)), .val (.int (1 : Int32)), .val (.int (2 : Int32)), .val (.int (3 : Int32)), .val (.int (3 : Int32))] [(.int (1 : Int32)), (.int (1 : Int32))])) _
          refine XS.icmpNo X380.here hx rfl (hb hby at_114) rfl (by decide) ?_
          show Steps p.tables e below (T380.setTop (mkF m 117 #[.val (.int p0), .val (.ref b178), .val (.int (2 : Int32)), .val (.int (0 : Int32)), .val (.int (1 : Int32)), .val (.int (1 : Int32)), .val (.int (2 : Int32)), .val (.int (3 : Int32)), .val (.int (3 : Int32))] [])) _
          refine XS.iload X380.here hx rfl (hb hby at_117) rfl ?_
          show Steps p.tables e below (T380.setTop (mkF m 119 #[.val (.int p0), .val (.ref b178), .val (.int (2 : Int32)), .val (.int (0 : Int32)), .val (.int (1 : Int32)), .val (.int (1 : Int32)), .val (.int (2 : Int32)), .val (.int (3 : Int32)), .val (.int (3 : Int32))] [(.int (1 : Int32))])) _
          refine XS.ifNo X380.here hx rfl (hb hby at_119) rfl (by decide) ?_
          show Steps p.tables e below (T380.setTop (mkF m 122 #[.val (.int p0), .val (.ref b178), .val (.int (2 : Int32)), .val (.int (0 : Int32)), .val (.int (1 : Int32)), .val (.int (1 : Int32)), .val (.int (2 : Int32)), .val (.int (3 : Int32)), .val (.int (3 : Int32))] [])) _
          refine XS.iload X380.here hx rfl (hb hby at_122) rfl ?_
          show Steps p.tables e below (T380.setTop (mkF m 124 #[.val (.int p0), .val (.ref b178), .val (.int (2 : Int32)), .val (.int (0 : Int32)), .val (.int (1 : Int32)), .val (.int (1 : Int32)), .val (.int (2 : Int32)), .val (.int (3 : Int32)), .val (.int (3 : Int32))] [(.int (2 : Int32))])) _
          refine XS.iconst X380.here hx rfl (hb hby at_124) ?_
          show Steps p.tables e below (T380.setTop (mkF m 125 #[.val (.int p0), .val (.ref b178), .val (.int (2 : Int32)), .val (.int (0 : Int32)), .val (.int (1 : Int32)), .val (.int (1 : Int32)), .val (.int (2 : Int32)), .val (.int (3 : Int32)), .val (.int (3 : Int32))] [(.int (2 : Int32)), (.int (2 : Int32))])) _
          refine XS.icmpNo X380.here hx rfl (hb hby at_125) rfl (by decide) ?_
          show Steps p.tables e below (T380.setTop (mkF m 128 #[.val (.int p0), .val (.ref b178), .val (.int (2 : Int32)), .val (.int (0 : Int32)), .val (.int (1 : Int32)), .val (.int (1 : Int32)), .val (.int (2 : Int32)), .val (.int (3 : Int32)), .val (.int (3 : Int32))] [])) _
          refine XS.iload X380.here hx rfl (hb hby at_128) rfl ?_
          show Steps p.tables e below (T380.setTop (mkF m 130 #[.val (.int p0), .val (.ref b178), .val (.int (2 : Int32)), .val (.int (0 : Int32)), .val (.int (1 : Int32)), .val (.int (1 : Int32)), .val (.int (2 : Int32)), .val (.int (3 : Int32)), .val (.int (3 : Int32))] [(.int (3 : Int32))])) _
          refine XS.iload X380.here hx rfl (hb hby at_130) rfl ?_
          show Steps p.tables e below (T380.setTop (mkF m 132 #[.val (.int p0), .val (.ref b178), .val (.int (2 : Int32)), .val (.int (0 : Int32)), .val (.int (1 : Int32)), .val (.int (1 : Int32)), .val (.int (2 : Int32)), .val (.int (3 : Int32)), .val (.int (3 : Int32))] [(.int (3 : Int32)), (.int (3 : Int32))])) _
          refine XS.icmpNo X380.here hx rfl (hb hby at_132) rfl (by decide) ?_
          show Steps p.tables e below (T380.setTop (mkF m 135 #[.val (.int p0), .val (.ref b178), .val (.int (2 : Int32)), .val (.int (0 : Int32)), .val (.int (1 : Int32)), .val (.int (1 : Int32)), .val (.int (2 : Int32)), .val (.int (3 : Int32)), .val (.int (3 : Int32))] [])) _
          refine XS.aloadN X380.here hx rfl (hb hby at_135) rfl rfl ?_
          show Steps p.tables e below (T380.setTop (mkF m 136 #[.val (.int p0), .val (.ref b178), .val (.int (2 : Int32)), .val (.int (0 : Int32)), .val (.int (1 : Int32)), .val (.int (1 : Int32)), .val (.int (2 : Int32)), .val (.int (3 : Int32)), .val (.int (3 : Int32))] [(.ref b178)])) _
          exact kq)
        have f386 := (Nat.le_trans f381 K380.1)
        have f387 := (f382.keep K380)
        obtain ⟨cq385, kq385, q385a, q385b, q385c⟩ := isOf hZ rfl f387
        obtain ⟨_, _, ⟨T385, L385, k385, n385⟩, -, X385, ⟨Lc385, hQ385, l385, y385, z385⟩, st385⟩ := X380.virtualBack hx (y := (⟨"com/example/role_delegation/roledelegation/Hierarchy", "changes", "()I"⟩ : MethodName)) (z := (⟨"com/example/role_delegation/roledelegation/Hierarchy", "changes", "()I"⟩ : MethodName)) hown (mvT hZ (hw _ (List.mem_of_getElem? (i := 34) rfl))) (mvT hZ (hw _ (List.mem_of_getElem? (i := 35) rfl))) (notFace_of_selects (args := #[]) (mvT hZ (hw _ (List.mem_of_getElem? (i := 37) rfl)))) (mvT hZ (hw _ (List.mem_of_getElem? (i := 37) rfl))) (mvT hZ (hw _ (List.mem_of_getElem? (i := 36) rfl))) (by decide) (backOf (W := 0) (rm6 l Z a0 hw [] b178 (4 : Int32) (2 : Int32) T380.heap n0 f386 f387 g_b178 Fn380x Fc380x) hZ (hw _ (List.mem_of_getElem? (i := 38) rfl)) (hw _ (List.mem_of_getElem? (i := 2) rfl)) (by decide) (by decide)) q385a q385c (g := (mkF m 136 #[.val (.int p0), .val (.ref b178), .val (.int (2 : Int32)), .val (.int (0 : Int32)), .val (.int (1 : Int32)), .val (.int (1 : Int32)), .val (.int (2 : Int32)), .val (.int (3 : Int32)), .val (.int (3 : Int32))] [(.ref b178)])) rfl (by rw [hml]; rfl) (Steps.refl _) (argsL := []) (rest := []) (lenOf pd_5 rfl) rfl (by show 2 * 0 + _ ≤ _; exact Nat.le_of_eq rfl) (hb hby at_136) (fun _ _ => ⟨rfl, rfl, (by decide : 8 + 0 ≤ _), (by decide : 41 + 0 ≤ _)⟩)
        dsimp only [Pt.U, Pt.locs, Pt.cells, Pt.slots] at X385 l385 y385 z385 st385 hQ385
        obtain rfl : k385 = 8 := y385
        obtain rfl : n385 = 41 := z385
        obtain ⟨rfl, N385q, e385⟩ := hQ385
        have N385 : Fr n0 L385 := by rw [l385]; exact Fr.app N380 N385q
        have G388 : Go p e below A0 (T385.setTop (mkF m 139 #[.val (.int p0), .val (.ref b178), .val (.int (2 : Int32)), .val (.int (0 : Int32)), .val (.int (1 : Int32)), .val (.int (1 : Int32)), .val (.int (2 : Int32)), .val (.int (3 : Int32)), .val (.int (3 : Int32))] [(.int (2 : Int32))])) := fun tq kq => G384 tq (st385.trans kq)
        have G389 : Go p e below A0 (T385.setTop (mkF m 148 #[.val (.int p0), .val (.ref b178), .val (.int (2 : Int32)), .val (.int (0 : Int32)), .val (.int (1 : Int32)), .val (.int (1 : Int32)), .val (.int (2 : Int32)), .val (.int (3 : Int32)), .val (.int (3 : Int32))] [(.int (1 : Int32))])) := fun tq kq => G388 tq (by
          refine XS.iloadN X385.here hx rfl (hb hby at_139) rfl ?_
          show Steps p.tables e below (T385.setTop (mkF m 140 #[.val (.int p0), .val (.ref b178), .val (.int (2 : Int32)), .val (.int (0 : Int32)), .val (.int (1 : Int32)), .val (.int (1 : Int32)), .val (.int (2 : Int32)), .val (.int (3 : Int32)), .val (.int (3 : Int32))] [(.int (2 : Int32)), (.int (2 : Int32))])) _
          refine XS.icmpNo X385.here hx rfl (hb hby at_140) rfl (by decide) ?_
          show Steps p.tables e below (T385.setTop (mkF m 143 #[.val (.int p0), .val (.ref b178), .val (.int (2 : Int32)), .val (.int (0 : Int32)), .val (.int (1 : Int32)), .val (.int (1 : Int32)), .val (.int (2 : Int32)), .val (.int (3 : Int32)), .val (.int (3 : Int32))] [])) _
          refine XS.iconst X385.here hx rfl (hb hby at_143) ?_
          show Steps p.tables e below (T385.setTop (mkF m 144 #[.val (.int p0), .val (.ref b178), .val (.int (2 : Int32)), .val (.int (0 : Int32)), .val (.int (1 : Int32)), .val (.int (1 : Int32)), .val (.int (2 : Int32)), .val (.int (3 : Int32)), .val (.int (3 : Int32))] [(.int (1 : Int32))])) _
          refine XS.goto X385.here hx rfl (pc0 := 144) (pc' := 148) rfl (hb hby at_144) (by decide) (by decide) ?_
          show Steps p.tables e below (T385.setTop (mkF m 148 #[.val (.int p0), .val (.ref b178), .val (.int (2 : Int32)), .val (.int (0 : Int32)), .val (.int (1 : Int32)), .val (.int (1 : Int32)), .val (.int (2 : Int32)), .val (.int (3 : Int32)), .val (.int (3 : Int32))] [(.int (1 : Int32))])) _
          exact kq)
        have f390 := (Nat.le_trans (Nat.le_trans (Nat.le_trans hk340 K344.1) K376.1) K380.1)
        obtain ⟨fs, hr, hrun, hended, hRW⟩ := X385.leaveW (s := s) (vm₁ := T340.vm) hS (by rw [e385]; exact f390) (v := some (.int (nar .boolean (1 : Int32)))) (fun h => by rw [Bd.returns] at h; cases h)
        refine ⟨_, _, (by rw [← hA0]; exact G389 _ (retN X385 hx (t := .boolean) Bd.returns (by simp) (hb hby at_148) hr)), hrun, hended, _, _, rfl, ?_, hRW.1, hRW.2.1, hRW.2.2.1, hRW.2.2.2.mono (by decide) (by decide)⟩
        exact ⟨rfl, N385⟩
set_option maxRecDepth 65536 in
set_option maxHeartbeats 40000000 in
theorem comes_1 {Post : Tables → Env → Array Value → State → Outcome → State → Prop} (hpost : ∀ tb e args s v u, (limb_1_1.after args s (.returned v) u = true ∧ limb_1_2.after args s (.returned v) u = true ∧ True) → ReturnedEndW s (.returned v) u (Jvm.fieldLocs frame_1_writes args s ++ Jvm.arrayLocs frame_1_arrays args s ++ Jvm.staticLocs frame_1_statics s) 24 1216 → Post tb e args s (.returned v) u) :
    ArmFor flags0 classFile x code maxLocals ret World_1 tables_1 room_1 Calls_1 rest_1 Pre_1 Post := by
  intro l hfl _ _ p e ha hc hk s m args below hf hA hF happ hP
  obtain ⟨hcalls, hrest, hpre⟩ := hP
  obtain ⟨-, -, -, hnamed, -, -, -, hat⟩ := (Spec.applies_iff hf).mp happ
  obtain ⟨hg, hn⟩ := and_e (Cond.before_iff.mp (show (Jvm.Cond.and given_1 narrow_1).before args s = true from hpre))
  obtain ⟨g1, g2⟩ := and_e hg
  obtain ⟨w0, rfl⟩ : ∃ w0 : Value, args = #[w0] := by
    have hs : args.size = 1 := by simpa [Cond.value, given_1] using g1
    obtain ⟨L⟩ := args
    match L, hs with
    | [w0], _ => exact ⟨w0, rfl⟩
  have hw := fun d (hd : d ∈ tables_1) => atoms_spec (ws := Jvm.Cond.code x code maxLocals ret :: tables_1) hat d (List.mem_cons_of_mem _ hd)
  have hfit : Fit s := fun {y c} hc i hi => by
    obtain ⟨ha, rfl⟩ := Array.getElem?_eq_some_iff.mp hc
    have q := List.all_eq_true.mp ((Array.all_eq_true_iff_forall_mem.mp hF) _ (Array.getElem_mem ha)) i (List.mem_range.mpr hi)
    simpa [Array.getElem?_eq_getElem hi] using q
  obtain ⟨hsets, hown0⟩ := atoms_of _ (rest_1_c_eq ▸ (show rest_1_c.before _ s = true from hrest))
  have hr0 := Cond.before_iff.mp hown0
  obtain ⟨i0, ei0⟩ := is_v g2
  obtain rfl : w0 = (.int i0) := Option.some.inj ei0
  have hs2 := Cond.before_iff.mp (hsets _ (List.mem_of_getElem? (i := 6) rfl))
  obtain ⟨da, eda⟩ := arr_v hs2
  have hSd : Sta s s.heap "java/util/ArrayList" "DEFAULTCAPACITY_EMPTY_ELEMENTDATA" "[Ljava/lang/Object;" (.ref da) := Sta.start eda (Or.inr ⟨(hw _ (List.mem_of_getElem? (i := 63) rfl)), (hsets _ (List.mem_of_getElem? (i := 2) rfl))⟩)
  obtain ⟨n, o, h1, h2, h3, _, L, rfl, ⟨rfl, N⟩, hq⟩ := rm0 l s _ hw tables_1 i0 da s.heap s.heap.size (Nat.le_refl _) (Old.start s) hSd p e ha hc hk s m _ below hf ((Spec.applies_iff_loose hf).mp happ).1 ⟨rfl, State.Warmed39.refl s, rfl⟩ trivial
  refine ⟨n, _, h1, h2, h3, hpost _ _ _ _ _ _ ⟨Cond.after_iff.mpr rfl, Cond.after_iff.mpr (eq_i res_at (Term.int_eval (1)) rfl), trivial⟩ ⟨hq.1, hq.2.1, hq.2.2.1, (hq.2.2.2.sift fun y hy => Or.inr (N y hy)).mono (by decide) (by decide)⟩⟩
theorem main_1_1 : Claimed_1_1 := comes_1 fun _ _ _ _ _ _ h hF => ⟨h.1, hF⟩
theorem main_1_2 : Claimed_1_2 := comes_1 fun _ _ _ _ _ _ h hF => ⟨h.2.1, hF⟩
end Jvm.Pilot.@@N@@
namespace Jvm.Pilot.@@N@@
open Jvm Jvm.ClassFile Sem Op Lib Jvm.Free Jvm.Stand Jvm.Pilot.@@N@@.Jvm.D
/-! MADE BY PROGRAM (witnessworld.py) out of the Statement's table words and the real class files: 37 classes; the members and pool entries that the words name. The judged class is class 1, her method 1. -/
namespace start1
open Jvm.ClassFile
def u (s : String) : CpInfo := .utf8 (stringToUtf16 s)
/-- a pool by its gaps: so many unusable entries, then the entry; so many at the end -/
def gap : Nat → List CpInfo → List CpInfo
  | 0, r => r
  | n + 1, r => .unusable :: gap n r
def poolList (es : List (Nat × CpInfo)) (last : Nat) : List CpInfo := es.foldr (fun e r => gap e.1 (e.2 :: r)) (gap last [])
def pool (es : List (Nat × CpInfo)) (last : Nat) : Array CpInfo := ⟨poolList es last⟩
def fileOf (pool : Array CpInfo) (this : Nat) (attrs : Array Attribute := #[]) (ms : Array MethodInfo := #[]) (fl : Nat := 33) (sup : Nat := 0) (ifs : Array Nat := #[]) (fds : Array FieldInfo := #[]) : ClassFile where
  minorVersion := 0
  majorVersion := 65
  constantPool := pool
  accessFlags := fl
  thisClass := this
  superClass := sup
  interfaces := ifs
  fields := fds
  methods := ms
  attributes := attrs
def plain (name : String) (sup : Option ClassId) : Class where
  name := name
  kind := .ordinary
  loader := none
  accessFlags := 33
  super := sup
  interfaces := #[]
  cf := none
  fields := #[]
  methods := #[]
  instanceTypes := #[]
  staticTypes := #[]
  resolved := #[]
  callSites := []
  init := .initialized
  statics := none
  mirror := none

def pool0 : Array CpInfo := pool [(5, u "<init>"), (0, u "()V"), (1, .class_ 10), (1, u "java/lang/Object")] 113

def k0c0 : Code := { maxStack := 0, maxLocals := 1, code := object_method_1_code, exceptionTable := #[], attributes := #[] }
def k0m0 : Method := { name := "<init>", desc := "()V", sig := { parameters := [], returnType := none }, accessFlags := 1, code := some k0c0 }
/-- java/lang/Object -/
def k0 : Class := { plain "java/lang/Object" none with
  accessFlags := 33
  interfaces := #[]
  cf := some (fileOf pool0 8 #[] #[{ accessFlags := 1, nameIndex := 5, descriptorIndex := 6, attributes := #[] }] 33 0 #[] #[])
  fields := #[]
  methods := #[k0m0]
  instanceTypes := #[]
  staticTypes := #[]
  resolved := Array.replicate 124 none
  statics := none }

def pool1 : Array CpInfo := pool [(2, .class_ 4), (0, .nameAndType 5 6), (0, u "java/lang/Object"), (0, u "<init>"), (0, u "()V"), (0, .class_ 8), (0, u "com/example/role_delegation/roledelegation/Hierarchy"), (0, .methodref 7 3), (0, .methodref 7 11), (0, .nameAndType 12 6), (0, u "changed"), (0, .methodref 7 14), (0, .nameAndType 15 16), (0, u "number"), (0, u "()I"), (0, .class_ 18), (0, u "com/example/role_delegation/roledelegation/Role"), (0, .string 20), (0, u "r"), (0, .methodref 17 22), (0, .nameAndType 5 23), (0, u "(Ljava/lang/String;Lcom/example/role_delegation/roledelegation/Hierarchy;)V"), (0, .methodref 17 14), (0, .methodref 7 26), (0, .nameAndType 27 16), (0, u "changes"), (0, .class_ 29), (0, u "com/example/role_delegation/roledelegation/HierarchyNumberPinLaw"), (2, u "law"), (0, u "(I)Z")] 3

def k1m0 : Method := { name := "<init>", desc := "()V", sig := { parameters := [], returnType := none }, accessFlags := 1, code := none }
def k1c1 : Code := { maxStack := 4, maxLocals := 9, code := code, exceptionTable := #[], attributes := #[] }
def k1m1 : Method := { name := "law", desc := "(I)Z", sig := { parameters := [.int], returnType := some .boolean }, accessFlags := 9, code := some k1c1 }
/-- com/example/role_delegation/roledelegation/HierarchyNumberPinLaw -/
def k1 : Class := { plain "com/example/role_delegation/roledelegation/HierarchyNumberPinLaw" (some 0) with
  accessFlags := 49
  interfaces := #[]
  cf := some (fileOf pool1 28 #[] #[{ accessFlags := 1, nameIndex := 5, descriptorIndex := 6, attributes := #[] }, { accessFlags := 9, nameIndex := 32, descriptorIndex := 33, attributes := #[] }] 49 2 #[] #[])
  fields := #[]
  methods := #[k1m0, k1m1]
  instanceTypes := #[]
  staticTypes := #[]
  resolved := Array.replicate 37 none
  statics := none }

def pool2 : Array CpInfo := pool [(1, .methodref 2 3), (0, .class_ 4), (0, .nameAndType 5 6), (0, u "java/lang/Object"), (0, u "<init>"), (0, u "()V"), (0, .class_ 8), (0, u "java/util/HashMap"), (0, .methodref 7 3), (0, .fieldref 11 12), (0, .class_ 13), (0, .nameAndType 14 15), (0, u "com/example/role_delegation/roledelegation/Hierarchy"), (0, u "grantedTo"), (0, u "Ljava/util/Map;"), (0, .fieldref 11 17), (0, .nameAndType 18 19), (0, u "numbered"), (0, u "I"), (0, .fieldref 11 21), (0, .nameAndType 22 19), (0, u "changes"), (2, u "NONE"), (0, u "[I"), (34, u "number"), (0, u "()I"), (0, u "UNUSED"), (6, u "changed")] 7

def k2c0 : Code := { maxStack := 3, maxLocals := 1, code := prog_28_method_1_code, exceptionTable := #[], attributes := #[] }
def k2m0 : Method := { name := "<init>", desc := "()V", sig := { parameters := [], returnType := none }, accessFlags := 0, code := some k2c0 }
def k2c1 : Code := { maxStack := 4, maxLocals := 1, code := prog_28_method_2_code, exceptionTable := #[], attributes := #[] }
def k2m1 : Method := { name := "number", desc := "()I", sig := { parameters := [], returnType := some .int }, accessFlags := 0, code := some k2c1 }
def k2c2 : Code := { maxStack := 3, maxLocals := 1, code := prog_28_method_3_code, exceptionTable := #[], attributes := #[] }
def k2m2 : Method := { name := "changed", desc := "()V", sig := { parameters := [], returnType := none }, accessFlags := 0, code := some k2c2 }
def k2c3 : Code := { maxStack := 1, maxLocals := 1, code := prog_28_method_4_code, exceptionTable := #[], attributes := #[] }
def k2m3 : Method := { name := "changes", desc := "()I", sig := { parameters := [], returnType := some .int }, accessFlags := 0, code := some k2c3 }
/-- com/example/role_delegation/roledelegation/Hierarchy -/
def k2 : Class := { plain "com/example/role_delegation/roledelegation/Hierarchy" (some 0) with
  accessFlags := 32
  interfaces := #[]
  cf := some (fileOf pool2 11 #[] #[{ accessFlags := 0, nameIndex := 5, descriptorIndex := 6, attributes := #[] }, { accessFlags := 0, nameIndex := 61, descriptorIndex := 62, attributes := #[] }, { accessFlags := 0, nameIndex := 70, descriptorIndex := 6, attributes := #[] }, { accessFlags := 0, nameIndex := 22, descriptorIndex := 62, attributes := #[] }] 32 2 #[] #[{ accessFlags := 24, nameIndex := 63, descriptorIndex := 19, attributes := #[] }, { accessFlags := 26, nameIndex := 25, descriptorIndex := 26, attributes := #[] }, { accessFlags := 18, nameIndex := 14, descriptorIndex := 15, attributes := #[] }, { accessFlags := 2, nameIndex := 18, descriptorIndex := 19, attributes := #[] }, { accessFlags := 2, nameIndex := 22, descriptorIndex := 19, attributes := #[] }])
  fields := #[{ name := "UNUSED", type := .int, accessFlags := 24, slot := 0, constantValue := 0 }, { name := "NONE", type := (.array .int), accessFlags := 26, slot := 1, constantValue := 0 }, { name := "grantedTo", type := (.object "java/util/Map"), accessFlags := 18, slot := 0, constantValue := 0 }, { name := "numbered", type := .int, accessFlags := 2, slot := 1, constantValue := 0 }, { name := "changes", type := .int, accessFlags := 2, slot := 2, constantValue := 0 }]
  methods := #[k2m0, k2m1, k2m2, k2m3]
  instanceTypes := #[(.object "java/util/Map"), .int, .int]
  staticTypes := #[.int, (.array .int)]
  resolved := Array.replicate 78 none
  statics := none }

def pool3 : Array CpInfo := pool [(2, .class_ 4), (1, u "java/util/Map"), (31, .class_ 37), (0, u "java/util/Map$Entry"), (55, .class_ 94), (0, u "java/lang/Object")] 168

/-- java/util/Map -/
def k3 : Class := { plain "java/util/Map" (some 0) with
  accessFlags := 1537
  interfaces := #[]
  cf := some (fileOf pool3 2 #[.nestMembers #[36]] #[] 1537 93 #[] #[])
  fields := #[]
  methods := #[]
  instanceTypes := #[]
  staticTypes := #[]
  resolved := Array.replicate 263 none
  statics := none }

def pool4 : Array CpInfo := pool [(1, .methodref 2 3), (0, .class_ 4), (0, .nameAndType 5 6), (0, u "java/lang/Object"), (0, u "<init>"), (0, u "()V"), (1, .class_ 10), (1, u "java/util/AbstractMap"), (42, .class_ 54), (0, u "java/util/Map"), (9, u "keySet"), (0, u "Ljava/util/Set;"), (0, .class_ 67), (0, u "java/util/AbstractMap$1"), (5, u "values"), (0, u "Ljava/util/Collection;"), (0, .class_ 76), (0, u "java/util/AbstractMap$2"), (104, .class_ 182), (0, u "java/util/AbstractMap$ViewCollection"), (0, .class_ 184), (0, u "java/util/AbstractMap$SimpleImmutableEntry"), (0, .class_ 186), (0, u "java/util/AbstractMap$SimpleEntry"), (0, .class_ 188), (0, u "java/util/AbstractMap$2$1"), (0, .class_ 190), (0, u "java/util/AbstractMap$1$1")] 5

def k4c0 : Code := { maxStack := 1, maxLocals := 1, code := jdk_71_method_1_code, exceptionTable := #[], attributes := #[] }
def k4m0 : Method := { name := "<init>", desc := "()V", sig := { parameters := [], returnType := none }, accessFlags := 4, code := some k4c0 }
/-- java/util/AbstractMap -/
def k4 : Class := { plain "java/util/AbstractMap" (some 0) with
  accessFlags := 1057
  interfaces := #[3]
  cf := some (fileOf pool4 8 #[.nestMembers #[181, 183, 185, 75, 187, 66, 189]] #[{ accessFlags := 4, nameIndex := 5, descriptorIndex := 6, attributes := #[] }] 1057 2 #[53] #[{ accessFlags := 128, nameIndex := 64, descriptorIndex := 65, attributes := #[] }, { accessFlags := 128, nameIndex := 73, descriptorIndex := 74, attributes := #[] }])
  fields := #[{ name := "keySet", type := (.object "java/util/Set"), accessFlags := 128, slot := 0, constantValue := 0 }, { name := "values", type := (.object "java/util/Collection"), accessFlags := 128, slot := 1, constantValue := 0 }]
  methods := #[k4m0]
  instanceTypes := #[(.object "java/util/Set"), (.object "java/util/Collection")]
  staticTypes := #[]
  resolved := Array.replicate 196 none
  statics := none }

def pool5 : Array CpInfo := pool [(1, .class_ 2), (0, u "java/lang/Cloneable"), (0, .class_ 4), (0, u "java/lang/Object")] 2

/-- java/lang/Cloneable -/
def k5 : Class := { plain "java/lang/Cloneable" (some 0) with
  accessFlags := 1537
  interfaces := #[]
  cf := some (fileOf pool5 1 #[] #[] 1537 3 #[] #[])
  fields := #[]
  methods := #[]
  instanceTypes := #[]
  staticTypes := #[]
  resolved := Array.replicate 7 none
  statics := none }

def pool6 : Array CpInfo := pool [(1, .class_ 2), (0, u "java/io/Serializable"), (0, .class_ 4), (0, u "java/lang/Object")] 2

/-- java/io/Serializable -/
def k6 : Class := { plain "java/io/Serializable" (some 0) with
  accessFlags := 1537
  interfaces := #[]
  cf := some (fileOf pool6 1 #[] #[] 1537 3 #[] #[])
  fields := #[]
  methods := #[]
  instanceTypes := #[]
  staticTypes := #[]
  resolved := Array.replicate 7 none
  statics := none }

def pool7 : Array CpInfo := pool [(34, .methodref 35 36), (0, .class_ 37), (0, .nameAndType 38 39), (0, u "java/lang/Integer"), (0, u "numberOfLeadingZeros"), (0, u "(I)I"), (0, .class_ 41), (0, u "java/util/HashMap"), (0, .integer 1073741824), (0, .methodref 44 45), (0, .class_ 46), (0, .nameAndType 47 48), (0, u "java/util/AbstractMap"), (0, u "<init>"), (0, u "()V"), (21, .methodref 71 72), (0, .class_ 73), (0, .nameAndType 74 75), (0, u "java/lang/Float"), (0, u "isNaN"), (0, u "(F)Z"), (5, .fieldref 40 82), (0, .nameAndType 83 84), (0, u "loadFactor"), (0, u "F"), (0, .methodref 40 86), (0, .nameAndType 87 39), (0, u "tableSizeFor"), (0, .fieldref 40 89), (0, .nameAndType 90 91), (0, u "threshold"), (0, u "I"), (0, .float 1061158912), (2, u "(IF)V"), (5, .class_ 103), (1, u "java/util/Map"), (0, u "size"), (2, u "table"), (0, u "[Ljava/util/HashMap$Node;"), (14, u "entrySet"), (39, .class_ 165), (1, u "java/util/HashMap$Node"), (14, .class_ 181), (0, u "java/util/HashMap$TreeNode"), (22, u "modCount"), (37, u "Ljava/util/Set;"), (0, .class_ 244), (0, u "java/util/HashMap$KeySet"), (18, .class_ 264), (0, u "java/util/HashMap$Values"), (3, .class_ 269), (0, u "java/util/HashMap$EntrySet"), (76, .class_ 348), (1, u "java/util/HashMap$UnsafeHolder"), (43, .class_ 393), (0, u "java/lang/Cloneable"), (0, .class_ 395), (0, u "java/io/Serializable"), (0, u "serialVersionUID"), (0, u "J"), (3, u "DEFAULT_INITIAL_CAPACITY"), (1, u "MAXIMUM_CAPACITY"), (0, u "DEFAULT_LOAD_FACTOR"), (0, u "TREEIFY_THRESHOLD"), (1, u "UNTREEIFY_THRESHOLD"), (1, u "MIN_TREEIFY_CAPACITY"), (186, .class_ 597), (0, u "java/util/HashMap$EntrySpliterator"), (0, .class_ 599), (0, u "java/util/HashMap$ValueSpliterator"), (0, .class_ 601), (0, u "java/util/HashMap$KeySpliterator"), (0, .class_ 603), (0, u "java/util/HashMap$HashMapSpliterator"), (0, .class_ 605), (0, u "java/util/HashMap$EntryIterator"), (0, .class_ 607), (0, u "java/util/HashMap$ValueIterator"), (0, .class_ 609), (0, u "java/util/HashMap$KeyIterator"), (0, .class_ 611), (0, u "java/util/HashMap$HashIterator")] 17

def k7c0 : Code := { maxStack := 3, maxLocals := 2, code := jdk_69_method_4_code, exceptionTable := #[], attributes := #[] }
def k7m0 : Method := { name := "tableSizeFor", desc := "(I)I", sig := { parameters := [.int], returnType := some .int }, accessFlags := 24, code := some k7c0 }
def k7c1 : Code := { maxStack := 4, maxLocals := 3, code := jdk_69_method_5_code, exceptionTable := #[], attributes := #[] }
def k7m1 : Method := { name := "<init>", desc := "(IF)V", sig := { parameters := [.int, .float], returnType := none }, accessFlags := 1, code := some k7c1 }
def k7c2 : Code := { maxStack := 2, maxLocals := 1, code := jdk_69_method_7_code, exceptionTable := #[], attributes := #[] }
def k7m2 : Method := { name := "<init>", desc := "()V", sig := { parameters := [], returnType := none }, accessFlags := 1, code := some k7c2 }
/-- java/util/HashMap -/
def k7 : Class := { plain "java/util/HashMap" (some 4) with
  accessFlags := 33
  interfaces := #[3, 5, 6]
  cf := some (fileOf pool7 40 #[.nestMembers #[180, 596, 598, 600, 602, 604, 606, 608, 610, 346, 268, 263, 243, 163]] #[{ accessFlags := 24, nameIndex := 87, descriptorIndex := 39, attributes := #[] }, { accessFlags := 1, nameIndex := 47, descriptorIndex := 95, attributes := #[] }, { accessFlags := 1, nameIndex := 47, descriptorIndex := 48, attributes := #[] }] 33 44 #[101, 392, 394] #[{ accessFlags := 26, nameIndex := 396, descriptorIndex := 397, attributes := #[] }, { accessFlags := 24, nameIndex := 401, descriptorIndex := 91, attributes := #[] }, { accessFlags := 24, nameIndex := 403, descriptorIndex := 91, attributes := #[] }, { accessFlags := 24, nameIndex := 404, descriptorIndex := 84, attributes := #[] }, { accessFlags := 24, nameIndex := 405, descriptorIndex := 91, attributes := #[] }, { accessFlags := 24, nameIndex := 407, descriptorIndex := 91, attributes := #[] }, { accessFlags := 24, nameIndex := 409, descriptorIndex := 91, attributes := #[] }, { accessFlags := 128, nameIndex := 107, descriptorIndex := 108, attributes := #[] }, { accessFlags := 128, nameIndex := 123, descriptorIndex := 242, attributes := #[] }, { accessFlags := 128, nameIndex := 104, descriptorIndex := 91, attributes := #[] }, { accessFlags := 128, nameIndex := 204, descriptorIndex := 91, attributes := #[] }, { accessFlags := 0, nameIndex := 90, descriptorIndex := 91, attributes := #[] }, { accessFlags := 16, nameIndex := 83, descriptorIndex := 84, attributes := #[] }])
  fields := #[{ name := "serialVersionUID", type := .long, accessFlags := 26, slot := 0, constantValue := 0 }, { name := "DEFAULT_INITIAL_CAPACITY", type := .int, accessFlags := 24, slot := 1, constantValue := 0 }, { name := "MAXIMUM_CAPACITY", type := .int, accessFlags := 24, slot := 2, constantValue := 0 }, { name := "DEFAULT_LOAD_FACTOR", type := .float, accessFlags := 24, slot := 3, constantValue := 0 }, { name := "TREEIFY_THRESHOLD", type := .int, accessFlags := 24, slot := 4, constantValue := 0 }, { name := "UNTREEIFY_THRESHOLD", type := .int, accessFlags := 24, slot := 5, constantValue := 0 }, { name := "MIN_TREEIFY_CAPACITY", type := .int, accessFlags := 24, slot := 6, constantValue := 0 }, { name := "table", type := (.array (.object "java/util/HashMap$Node")), accessFlags := 128, slot := 2, constantValue := 0 }, { name := "entrySet", type := (.object "java/util/Set"), accessFlags := 128, slot := 3, constantValue := 0 }, { name := "size", type := .int, accessFlags := 128, slot := 4, constantValue := 0 }, { name := "modCount", type := .int, accessFlags := 128, slot := 5, constantValue := 0 }, { name := "threshold", type := .int, accessFlags := 0, slot := 6, constantValue := 0 }, { name := "loadFactor", type := .float, accessFlags := 16, slot := 7, constantValue := 0 }]
  methods := #[k7m0, k7m1, k7m2]
  instanceTypes := #[(.object "java/util/Set"), (.object "java/util/Collection"), (.array (.object "java/util/HashMap$Node")), (.object "java/util/Set"), .int, .int, .int, .float]
  staticTypes := #[.long, .int, .int, .float, .int, .int, .int]
  resolved := Array.replicate 629 none
  statics := none }

def pool8 : Array CpInfo := pool [(1, .methodref 2 3), (0, .class_ 4), (0, .nameAndType 5 6), (0, u "java/lang/Object"), (0, u "<init>"), (0, u "()V"), (0, .class_ 8), (0, u "java/util/ArrayList"), (0, .methodref 7 3), (0, .fieldref 11 12), (0, .class_ 13), (0, .nameAndType 14 15), (0, u "com/example/role_delegation/roledelegation/Role"), (0, u "juniors"), (0, u "Ljava/util/List;"), (0, .class_ 17), (0, u "java/util/LinkedHashSet"), (0, .methodref 16 3), (0, .fieldref 11 20), (0, .nameAndType 21 22), (0, u "permissions"), (0, u "Ljava/util/Set;"), (0, .fieldref 11 24), (0, .nameAndType 25 26), (0, u "name"), (0, u "Ljava/lang/String;"), (0, .fieldref 11 28), (0, .nameAndType 29 30), (0, u "hierarchy"), (0, u "Lcom/example/role_delegation/roledelegation/Hierarchy;"), (0, .methodref 32 33), (0, .class_ 34), (0, .nameAndType 35 36), (0, u "com/example/role_delegation/roledelegation/Hierarchy"), (0, u "number"), (0, u "()I"), (0, .fieldref 11 38), (0, .nameAndType 35 39), (0, u "I"), (34, .class_ 76), (1, u "com/example/role_delegation/roledelegation/Role$Below"), (8, u "below"), (0, u "Lcom/example/role_delegation/roledelegation/Role$Below;"), (71, u "(Ljava/lang/String;Lcom/example/role_delegation/roledelegation/Hierarchy;)V")] 47

def k8c0 : Code := { maxStack := 3, maxLocals := 3, code := prog_56_method_1_code, exceptionTable := #[], attributes := #[] }
def k8m0 : Method := { name := "<init>", desc := "(Ljava/lang/String;Lcom/example/role_delegation/roledelegation/Hierarchy;)V", sig := { parameters := [(.object "java/lang/String"), (.object "com/example/role_delegation/roledelegation/Hierarchy")], returnType := none }, accessFlags := 0, code := some k8c0 }
def k8c1 : Code := { maxStack := 1, maxLocals := 1, code := prog_56_method_2_code, exceptionTable := #[], attributes := #[] }
def k8m1 : Method := { name := "number", desc := "()I", sig := { parameters := [], returnType := some .int }, accessFlags := 0, code := some k8c1 }
/-- com/example/role_delegation/roledelegation/Role -/
def k8 : Class := { plain "com/example/role_delegation/roledelegation/Role" (some 0) with
  accessFlags := 32
  interfaces := #[]
  cf := some (fileOf pool8 11 #[.nestMembers #[74]] #[{ accessFlags := 0, nameIndex := 5, descriptorIndex := 158, attributes := #[] }, { accessFlags := 0, nameIndex := 35, descriptorIndex := 36, attributes := #[] }] 32 2 #[] #[{ accessFlags := 18, nameIndex := 25, descriptorIndex := 26, attributes := #[] }, { accessFlags := 18, nameIndex := 29, descriptorIndex := 30, attributes := #[] }, { accessFlags := 18, nameIndex := 35, descriptorIndex := 39, attributes := #[] }, { accessFlags := 18, nameIndex := 14, descriptorIndex := 15, attributes := #[] }, { accessFlags := 18, nameIndex := 21, descriptorIndex := 22, attributes := #[] }, { accessFlags := 66, nameIndex := 85, descriptorIndex := 86, attributes := #[] }])
  fields := #[{ name := "name", type := (.object "java/lang/String"), accessFlags := 18, slot := 0, constantValue := 0 }, { name := "hierarchy", type := (.object "com/example/role_delegation/roledelegation/Hierarchy"), accessFlags := 18, slot := 1, constantValue := 0 }, { name := "number", type := .int, accessFlags := 18, slot := 2, constantValue := 0 }, { name := "juniors", type := (.object "java/util/List"), accessFlags := 18, slot := 3, constantValue := 0 }, { name := "permissions", type := (.object "java/util/Set"), accessFlags := 18, slot := 4, constantValue := 0 }, { name := "below", type := (.object "com/example/role_delegation/roledelegation/Role$Below"), accessFlags := 66, slot := 5, constantValue := 0 }]
  methods := #[k8m0, k8m1]
  instanceTypes := #[(.object "java/lang/String"), (.object "com/example/role_delegation/roledelegation/Hierarchy"), .int, (.object "java/util/List"), (.object "java/util/Set"), (.object "com/example/role_delegation/roledelegation/Role$Below")]
  staticTypes := #[]
  resolved := Array.replicate 206 none
  statics := none }

def pool9 : Array CpInfo := pool [(1, .class_ 2), (0, u "java/lang/Comparable"), (0, .class_ 4), (0, u "java/lang/Object")] 7

/-- java/lang/Comparable -/
def k9 : Class := { plain "java/lang/Comparable" (some 0) with
  accessFlags := 1537
  interfaces := #[]
  cf := some (fileOf pool9 1 #[] #[] 1537 3 #[] #[])
  fields := #[]
  methods := #[]
  instanceTypes := #[]
  staticTypes := #[]
  resolved := Array.replicate 12 none
  statics := none }

def pool10 : Array CpInfo := pool [(2, .class_ 4), (1, u "java/lang/CharSequence"), (42, .class_ 48), (0, u "java/lang/CharSequence$1CodePointIterator"), (10, .class_ 60), (0, u "java/lang/CharSequence$1CharIterator"), (5, .class_ 67), (0, u "java/lang/Object")] 63

/-- java/lang/CharSequence -/
def k10 : Class := { plain "java/lang/CharSequence" (some 0) with
  accessFlags := 1537
  interfaces := #[]
  cf := some (fileOf pool10 2 #[.nestMembers #[47, 59]] #[] 1537 66 #[] #[])
  fields := #[]
  methods := #[]
  instanceTypes := #[]
  staticTypes := #[]
  resolved := Array.replicate 131 none
  statics := none }

def pool11 : Array CpInfo := pool [(1, .class_ 2), (0, u "java/lang/constant/Constable"), (0, .class_ 4), (0, u "java/lang/Object")] 6

/-- java/lang/constant/Constable -/
def k11 : Class := { plain "java/lang/constant/Constable" (some 0) with
  accessFlags := 1537
  interfaces := #[]
  cf := some (fileOf pool11 1 #[] #[] 1537 3 #[] #[])
  fields := #[]
  methods := #[]
  instanceTypes := #[]
  staticTypes := #[]
  resolved := Array.replicate 11 none
  statics := none }

def pool12 : Array CpInfo := pool [(1, .class_ 2), (0, u "java/lang/constant/ConstantDesc"), (0, .class_ 4), (0, u "java/lang/Object")] 32

/-- java/lang/constant/ConstantDesc -/
def k12 : Class := { plain "java/lang/constant/ConstantDesc" (some 0) with
  accessFlags := 1537
  interfaces := #[]
  cf := some (fileOf pool12 1 #[] #[] 1537 3 #[] #[])
  fields := #[]
  methods := #[]
  instanceTypes := #[]
  staticTypes := #[]
  resolved := Array.replicate 37 none
  statics := none }

def pool13 : Array CpInfo := pool [(2, .class_ 4), (1, u "java/lang/Object"), (0, u "<init>"), (0, u "()V"), (3, .class_ 12), (1, u "java/lang/String"), (0, u "value"), (0, u "[B"), (2, u "coder"), (0, u "B"), (2, u "hash"), (0, u "I"), (2, u "hashIsZero"), (0, u "Z"), (13, u "COMPACT_STRINGS"), (534, .class_ 576), (0, u "java/lang/CharSequence"), (22, u "CASE_INSENSITIVE_ORDER"), (0, u "Ljava/util/Comparator;"), (500, u "serialPersistentFields"), (0, u "[Ljava/io/ObjectStreamField;"), (0, .class_ 1104), (0, u "java/lang/String$CaseInsensitiveComparator"), (1, .class_ 1107), (0, u "java/io/Serializable"), (0, .class_ 1109), (0, u "java/lang/Comparable"), (0, .class_ 1111), (0, u "java/lang/constant/Constable"), (0, .class_ 1113), (0, u "java/lang/constant/ConstantDesc"), (2, u "serialVersionUID"), (0, u "J"), (3, u "REPL"), (0, u "C"), (2, u "LATIN1"), (1, u "UTF16")] 323

def k13m0 : Method := { name := "<init>", desc := "()V", sig := { parameters := [], returnType := none }, accessFlags := 1, code := none }
/-- java/lang/String -/
def k13 : Class := { plain "java/lang/String" (some 0) with
  accessFlags := 49
  interfaces := #[6, 9, 10, 11, 12]
  cf := some (fileOf pool13 10 #[.nestMembers #[1103]] #[{ accessFlags := 1, nameIndex := 5, descriptorIndex := 6, attributes := #[] }] 49 2 #[1106, 1108, 575, 1110, 1112] #[{ accessFlags := 18, nameIndex := 13, descriptorIndex := 14, attributes := #[] }, { accessFlags := 18, nameIndex := 17, descriptorIndex := 18, attributes := #[] }, { accessFlags := 2, nameIndex := 21, descriptorIndex := 22, attributes := #[] }, { accessFlags := 2, nameIndex := 25, descriptorIndex := 26, attributes := #[] }, { accessFlags := 26, nameIndex := 1116, descriptorIndex := 1117, attributes := #[] }, { accessFlags := 24, nameIndex := 40, descriptorIndex := 26, attributes := #[] }, { accessFlags := 26, nameIndex := 1101, descriptorIndex := 1102, attributes := #[] }, { accessFlags := 26, nameIndex := 1121, descriptorIndex := 1122, attributes := #[] }, { accessFlags := 25, nameIndex := 599, descriptorIndex := 600, attributes := #[] }, { accessFlags := 24, nameIndex := 1125, descriptorIndex := 18, attributes := #[] }, { accessFlags := 24, nameIndex := 1127, descriptorIndex := 18, attributes := #[] }])
  fields := #[{ name := "value", type := (.array .byte), accessFlags := 18, slot := 0, constantValue := 0 }, { name := "coder", type := .byte, accessFlags := 18, slot := 1, constantValue := 0 }, { name := "hash", type := .int, accessFlags := 2, slot := 2, constantValue := 0 }, { name := "hashIsZero", type := .boolean, accessFlags := 2, slot := 3, constantValue := 0 }, { name := "serialVersionUID", type := .long, accessFlags := 26, slot := 0, constantValue := 0 }, { name := "COMPACT_STRINGS", type := .boolean, accessFlags := 24, slot := 1, constantValue := 0 }, { name := "serialPersistentFields", type := (.array (.object "java/io/ObjectStreamField")), accessFlags := 26, slot := 2, constantValue := 0 }, { name := "REPL", type := .char, accessFlags := 26, slot := 3, constantValue := 0 }, { name := "CASE_INSENSITIVE_ORDER", type := (.object "java/util/Comparator"), accessFlags := 25, slot := 4, constantValue := 0 }, { name := "LATIN1", type := .byte, accessFlags := 24, slot := 5, constantValue := 0 }, { name := "UTF16", type := .byte, accessFlags := 24, slot := 6, constantValue := 0 }]
  methods := #[k13m0]
  instanceTypes := #[(.array .byte), .byte, .int, .boolean]
  staticTypes := #[.long, .boolean, (.array (.object "java/io/ObjectStreamField")), .char, (.object "java/util/Comparator"), .byte, .byte]
  resolved := Array.replicate 1451 none
  statics := none }

def pool14 : Array CpInfo := pool [(8, .class_ 10), (1, u "java/lang/Iterable"), (24, .class_ 36), (0, u "java/lang/Object")] 25

/-- java/lang/Iterable -/
def k14 : Class := { plain "java/lang/Iterable" (some 0) with
  accessFlags := 1537
  interfaces := #[]
  cf := some (fileOf pool14 8 #[] #[] 1537 35 #[] #[])
  fields := #[]
  methods := #[]
  instanceTypes := #[]
  staticTypes := #[]
  resolved := Array.replicate 62 none
  statics := none }

def pool15 : Array CpInfo := pool [(10, .class_ 12), (1, u "java/util/Collection"), (47, .class_ 61), (0, u "java/lang/Object"), (0, .class_ 63), (0, u "java/lang/Iterable")] 51

/-- java/util/Collection -/
def k15 : Class := { plain "java/util/Collection" (some 0) with
  accessFlags := 1537
  interfaces := #[14]
  cf := some (fileOf pool15 10 #[] #[] 1537 60 #[62] #[])
  fields := #[]
  methods := #[]
  instanceTypes := #[]
  staticTypes := #[]
  resolved := Array.replicate 115 none
  statics := none }

def pool16 : Array CpInfo := pool [(1, .methodref 2 3), (0, .class_ 4), (0, .nameAndType 5 6), (0, u "java/lang/Object"), (0, u "<init>"), (0, u "()V"), (1, .class_ 10), (1, u "java/util/AbstractCollection"), (66, .class_ 78), (0, u "java/util/Collection")] 81

def k16c0 : Code := { maxStack := 1, maxLocals := 1, code := jdk_22_method_1_code, exceptionTable := #[], attributes := #[] }
def k16m0 : Method := { name := "<init>", desc := "()V", sig := { parameters := [], returnType := none }, accessFlags := 4, code := some k16c0 }
/-- java/util/AbstractCollection -/
def k16 : Class := { plain "java/util/AbstractCollection" (some 0) with
  accessFlags := 1057
  interfaces := #[15]
  cf := some (fileOf pool16 8 #[] #[{ accessFlags := 4, nameIndex := 5, descriptorIndex := 6, attributes := #[] }] 1057 2 #[77] #[])
  fields := #[]
  methods := #[k16m0]
  instanceTypes := #[]
  staticTypes := #[]
  resolved := Array.replicate 160 none
  statics := none }

def pool17 : Array CpInfo := pool [(8, .class_ 10), (1, u "java/util/SequencedCollection"), (15, .class_ 27), (0, u "java/lang/Object"), (0, .class_ 29), (0, u "java/util/Collection")] 27

/-- java/util/SequencedCollection -/
def k17 : Class := { plain "java/util/SequencedCollection" (some 0) with
  accessFlags := 1537
  interfaces := #[15]
  cf := some (fileOf pool17 8 #[] #[] 1537 26 #[28] #[])
  fields := #[]
  methods := #[]
  instanceTypes := #[]
  staticTypes := #[]
  resolved := Array.replicate 57 none
  statics := none }

def pool18 : Array CpInfo := pool [(8, .class_ 10), (1, u "java/util/List"), (92, .class_ 104), (0, u "java/lang/Object"), (15, .class_ 121), (0, u "java/util/SequencedCollection")] 129

/-- java/util/List -/
def k18 : Class := { plain "java/util/List" (some 0) with
  accessFlags := 1537
  interfaces := #[17]
  cf := some (fileOf pool18 8 #[] #[] 1537 103 #[120] #[])
  fields := #[]
  methods := #[]
  instanceTypes := #[]
  staticTypes := #[]
  resolved := Array.replicate 251 none
  statics := none }

def pool19 : Array CpInfo := pool [(1, .methodref 2 3), (0, .class_ 4), (0, .nameAndType 5 6), (0, u "java/util/AbstractCollection"), (0, u "<init>"), (0, u "()V"), (0, .fieldref 8 9), (0, .class_ 10), (0, .nameAndType 11 12), (0, u "java/util/AbstractList"), (0, u "modCount"), (0, u "I"), (64, .class_ 78), (0, u "java/util/AbstractList$Itr"), (3, .class_ 83), (0, u "java/util/AbstractList$ListItr"), (9, .class_ 94), (0, u "java/util/AbstractList$RandomAccessSubList"), (3, .class_ 99), (0, u "java/util/AbstractList$SubList"), (33, .class_ 134), (0, u "java/util/List"), (73, .class_ 209), (0, u "java/util/AbstractList$SubList$1"), (0, .class_ 211), (0, u "java/util/AbstractList$RandomAccessSpliterator")] 6

def k19c0 : Code := { maxStack := 2, maxLocals := 1, code := jdk_39_method_1_code, exceptionTable := #[], attributes := #[] }
def k19m0 : Method := { name := "<init>", desc := "()V", sig := { parameters := [], returnType := none }, accessFlags := 4, code := some k19c0 }
/-- java/util/AbstractList -/
def k19 : Class := { plain "java/util/AbstractList" (some 16) with
  accessFlags := 1057
  interfaces := #[18]
  cf := some (fileOf pool19 8 #[.nestMembers #[93, 98, 208, 210, 82, 77]] #[{ accessFlags := 4, nameIndex := 5, descriptorIndex := 6, attributes := #[] }] 1057 2 #[133] #[{ accessFlags := 132, nameIndex := 11, descriptorIndex := 12, attributes := #[] }])
  fields := #[{ name := "modCount", type := .int, accessFlags := 132, slot := 0, constantValue := 0 }]
  methods := #[k19m0]
  instanceTypes := #[.int]
  staticTypes := #[]
  resolved := Array.replicate 218 none
  statics := none }

def pool20 : Array CpInfo := pool [(1, .class_ 2), (0, u "java/util/RandomAccess"), (0, .class_ 4), (0, u "java/lang/Object")] 2

/-- java/util/RandomAccess -/
def k20 : Class := { plain "java/util/RandomAccess" (some 0) with
  accessFlags := 1537
  interfaces := #[]
  cf := some (fileOf pool20 1 #[] #[] 1537 3 #[] #[])
  fields := #[]
  methods := #[]
  instanceTypes := #[]
  staticTypes := #[]
  resolved := Array.replicate 7 none
  statics := none }

def pool21 : Array CpInfo := pool [(1, .methodref 2 3), (0, .class_ 4), (0, .nameAndType 5 6), (0, u "java/util/AbstractList"), (0, u "<init>"), (0, u "()V"), (2, .fieldref 10 11), (0, .class_ 12), (0, .nameAndType 13 14), (0, u "java/util/ArrayList"), (0, u "elementData"), (0, u "[Ljava/lang/Object;"), (2, u "EMPTY_ELEMENTDATA"), (21, .fieldref 10 40), (0, .nameAndType 41 14), (0, u "DEFAULTCAPACITY_EMPTY_ELEMENTDATA"), (8, u "size"), (0, u "I"), (96, .class_ 149), (0, u "java/util/List"), (112, .class_ 263), (0, u "java/util/ArrayList$ListItr"), (3, .class_ 268), (0, u "java/util/ArrayList$Itr"), (7, .class_ 277), (0, u "java/util/ArrayList$SubList"), (12, .class_ 291), (0, u "java/util/ArrayList$ArrayListSpliterator"), (37, .class_ 330), (0, u "java/util/RandomAccess"), (0, .class_ 332), (0, u "java/lang/Cloneable"), (0, .class_ 334), (0, u "java/io/Serializable"), (0, u "serialVersionUID"), (0, u "J"), (3, u "DEFAULT_CAPACITY"), (159, .class_ 501), (0, u "java/util/ArrayList$SubList$2"), (0, .class_ 503), (0, u "java/util/ArrayList$SubList$1")] 5

def k21c0 : Code := { maxStack := 2, maxLocals := 1, code := jdk_38_method_2_code, exceptionTable := #[], attributes := #[] }
def k21m0 : Method := { name := "<init>", desc := "()V", sig := { parameters := [], returnType := none }, accessFlags := 1, code := some k21c0 }
/-- java/util/ArrayList -/
def k21 : Class := { plain "java/util/ArrayList" (some 19) with
  accessFlags := 33
  interfaces := #[18, 20, 5, 6]
  cf := some (fileOf pool21 10 #[.nestMembers #[290, 276, 500, 502, 262, 267]] #[{ accessFlags := 1, nameIndex := 5, descriptorIndex := 6, attributes := #[] }] 33 2 #[148, 329, 331, 333] #[{ accessFlags := 26, nameIndex := 335, descriptorIndex := 336, attributes := #[] }, { accessFlags := 26, nameIndex := 340, descriptorIndex := 51, attributes := #[] }, { accessFlags := 26, nameIndex := 17, descriptorIndex := 14, attributes := #[] }, { accessFlags := 26, nameIndex := 41, descriptorIndex := 14, attributes := #[] }, { accessFlags := 128, nameIndex := 13, descriptorIndex := 14, attributes := #[] }, { accessFlags := 2, nameIndex := 50, descriptorIndex := 51, attributes := #[] }])
  fields := #[{ name := "serialVersionUID", type := .long, accessFlags := 26, slot := 0, constantValue := 0 }, { name := "DEFAULT_CAPACITY", type := .int, accessFlags := 26, slot := 1, constantValue := 0 }, { name := "EMPTY_ELEMENTDATA", type := (.array (.object "java/lang/Object")), accessFlags := 26, slot := 2, constantValue := 0 }, { name := "DEFAULTCAPACITY_EMPTY_ELEMENTDATA", type := (.array (.object "java/lang/Object")), accessFlags := 26, slot := 3, constantValue := 0 }, { name := "elementData", type := (.array (.object "java/lang/Object")), accessFlags := 128, slot := 1, constantValue := 0 }, { name := "size", type := .int, accessFlags := 2, slot := 2, constantValue := 0 }]
  methods := #[k21m0]
  instanceTypes := #[.int, (.array (.object "java/lang/Object")), .int]
  staticTypes := #[.long, .int, (.array (.object "java/lang/Object")), (.array (.object "java/lang/Object"))]
  resolved := Array.replicate 509 none
  statics := some 0 }

def pool22 : Array CpInfo := pool [(26, .class_ 27), (0, u "java/lang/Object"), (5, .class_ 34), (0, u "java/util/Set"), (1, .class_ 38), (1, u "java/util/Collection")] 105

/-- java/util/Set -/
def k22 : Class := { plain "java/util/Set" (some 0) with
  accessFlags := 1537
  interfaces := #[15]
  cf := some (fileOf pool22 33 #[] #[] 1537 26 #[36] #[])
  fields := #[]
  methods := #[]
  instanceTypes := #[]
  staticTypes := #[]
  resolved := Array.replicate 144 none
  statics := none }

def pool23 : Array CpInfo := pool [(1, .methodref 2 3), (0, .class_ 4), (0, .nameAndType 5 6), (0, u "java/util/AbstractCollection"), (0, u "<init>"), (0, u "()V"), (0, .class_ 8), (0, u "java/util/Set"), (7, .class_ 17), (0, u "java/util/AbstractSet")] 78

def k23c0 : Code := { maxStack := 1, maxLocals := 1, code := jdk_91_method_1_code, exceptionTable := #[], attributes := #[] }
def k23m0 : Method := { name := "<init>", desc := "()V", sig := { parameters := [], returnType := none }, accessFlags := 4, code := some k23c0 }
/-- java/util/AbstractSet -/
def k23 : Class := { plain "java/util/AbstractSet" (some 16) with
  accessFlags := 1057
  interfaces := #[22]
  cf := some (fileOf pool23 16 #[] #[{ accessFlags := 4, nameIndex := 5, descriptorIndex := 6, attributes := #[] }] 1057 2 #[7] #[])
  fields := #[]
  methods := #[k23m0]
  instanceTypes := #[]
  staticTypes := #[]
  resolved := Array.replicate 96 none
  statics := none }

def pool24 : Array CpInfo := pool [(1, .methodref 2 3), (0, .class_ 4), (0, .nameAndType 5 6), (0, u "java/util/AbstractSet"), (0, u "<init>"), (0, u "()V"), (3, .fieldref 11 12), (0, .class_ 13), (0, .nameAndType 14 15), (0, u "java/util/HashSet"), (0, u "map"), (0, u "Ljava/util/HashMap;"), (21, .nameAndType 5 38), (0, u "(IF)V"), (3, .class_ 43), (0, u "java/util/LinkedHashMap"), (0, .methodref 42 37), (5, .class_ 52), (1, u "java/util/Set"), (13, u "PRESENT"), (0, u "Ljava/lang/Object;"), (158, .class_ 227), (0, u "java/lang/Cloneable"), (0, .class_ 229), (0, u "java/io/Serializable"), (0, u "serialVersionUID"), (0, u "J"), (20, u "(IFZ)V")] 50

def k24m0 : Method := { name := "<init>", desc := "()V", sig := { parameters := [], returnType := none }, accessFlags := 1, code := none }
def k24c1 : Code := { maxStack := 5, maxLocals := 4, code := jdk_93_method_5_code, exceptionTable := #[], attributes := #[] }
def k24m1 : Method := { name := "<init>", desc := "(IFZ)V", sig := { parameters := [.int, .float, .boolean], returnType := none }, accessFlags := 0, code := some k24c1 }
/-- java/util/HashSet -/
def k24 : Class := { plain "java/util/HashSet" (some 23) with
  accessFlags := 33
  interfaces := #[22, 5, 6]
  cf := some (fileOf pool24 11 #[] #[{ accessFlags := 1, nameIndex := 5, descriptorIndex := 6, attributes := #[] }, { accessFlags := 0, nameIndex := 5, descriptorIndex := 252, attributes := #[] }] 33 2 #[50, 226, 228] #[{ accessFlags := 24, nameIndex := 230, descriptorIndex := 231, attributes := #[] }, { accessFlags := 128, nameIndex := 14, descriptorIndex := 15, attributes := #[] }, { accessFlags := 24, nameIndex := 66, descriptorIndex := 67, attributes := #[] }])
  fields := #[{ name := "serialVersionUID", type := .long, accessFlags := 24, slot := 0, constantValue := 0 }, { name := "map", type := (.object "java/util/HashMap"), accessFlags := 128, slot := 0, constantValue := 0 }, { name := "PRESENT", type := (.object "java/lang/Object"), accessFlags := 24, slot := 1, constantValue := 0 }]
  methods := #[k24m0, k24m1]
  instanceTypes := #[(.object "java/util/HashMap")]
  staticTypes := #[.long, (.object "java/lang/Object")]
  resolved := Array.replicate 303 none
  statics := none }

def pool25 : Array CpInfo := pool [(2, .class_ 4), (1, u "java/util/SequencedSet"), (2, .class_ 8), (0, u "java/lang/Object"), (0, .class_ 10), (0, u "java/util/SequencedCollection"), (0, .class_ 12), (0, u "java/util/Set")] 13

/-- java/util/SequencedSet -/
def k25 : Class := { plain "java/util/SequencedSet" (some 0) with
  accessFlags := 1537
  interfaces := #[17, 22]
  cf := some (fileOf pool25 2 #[] #[] 1537 7 #[9, 11] #[])
  fields := #[]
  methods := #[]
  instanceTypes := #[]
  staticTypes := #[]
  resolved := Array.replicate 26 none
  statics := none }

def pool26 : Array CpInfo := pool [(1, .methodref 2 3), (0, .class_ 4), (0, .nameAndType 5 6), (0, u "java/util/HashSet"), (0, u "<init>"), (0, u "(IFZ)V"), (0, .float 1061158912), (19, .class_ 29), (1, u "java/util/LinkedHashSet"), (16, u "()V"), (44, .class_ 93), (1, u "java/util/SequencedSet"), (11, .class_ 106), (0, u "java/util/LinkedHashSet$1ReverseLinkedHashSetView"), (6, .class_ 114), (0, u "java/lang/Cloneable"), (0, .class_ 116), (0, u "java/io/Serializable"), (0, u "serialVersionUID"), (0, u "J")] 44

def k26c0 : Code := { maxStack := 4, maxLocals := 1, code := jdk_2620_method_3_code, exceptionTable := #[], attributes := #[] }
def k26m0 : Method := { name := "<init>", desc := "()V", sig := { parameters := [], returnType := none }, accessFlags := 1, code := some k26c0 }
/-- java/util/LinkedHashSet -/
def k26 : Class := { plain "java/util/LinkedHashSet" (some 24) with
  accessFlags := 33
  interfaces := #[25, 5, 6]
  cf := some (fileOf pool26 27 #[.nestMembers #[105]] #[{ accessFlags := 1, nameIndex := 5, descriptorIndex := 46, attributes := #[] }] 33 2 #[91, 113, 115] #[{ accessFlags := 26, nameIndex := 117, descriptorIndex := 118, attributes := #[] }])
  fields := #[{ name := "serialVersionUID", type := .long, accessFlags := 26, slot := 0, constantValue := 0 }]
  methods := #[k26m0]
  instanceTypes := #[(.object "java/util/HashMap")]
  staticTypes := #[.long]
  resolved := Array.replicate 163 none
  statics := none }

def pool27 : Array CpInfo := pool [(2, .class_ 4), (1, u "java/util/SequencedMap"), (38, .class_ 44), (0, u "java/util/SequencedMap$1SeqKeySet"), (3, .class_ 49), (0, u "java/util/SequencedMap$1SeqValues"), (1, .class_ 52), (0, u "java/util/SequencedMap$1SeqEntrySet"), (1, .class_ 55), (0, u "java/lang/Object"), (0, .class_ 57), (0, u "java/util/Map")] 48

/-- java/util/SequencedMap -/
def k27 : Class := { plain "java/util/SequencedMap" (some 0) with
  accessFlags := 1537
  interfaces := #[3]
  cf := some (fileOf pool27 2 #[.nestMembers #[51, 48, 43]] #[] 1537 54 #[56] #[])
  fields := #[]
  methods := #[]
  instanceTypes := #[]
  staticTypes := #[]
  resolved := Array.replicate 106 none
  statics := none }

def pool28 : Array CpInfo := pool [(1, .fieldref 2 3), (0, .class_ 4), (0, .nameAndType 5 6), (0, u "java/util/LinkedHashMap"), (0, u "putMode"), (0, u "I"), (2, u "head"), (0, u "Ljava/util/LinkedHashMap$Entry;"), (2, u "tail"), (1, .class_ 17), (1, u "java/util/LinkedHashMap$Entry"), (5, .class_ 25), (1, u "java/util/HashMap"), (1, u "()V"), (2, u "<init>"), (33, .fieldref 2 65), (0, .nameAndType 66 67), (0, u "accessOrder"), (0, u "Z"), (13, .methodref 23 82), (0, .nameAndType 30 83), (0, u "(IF)V"), (37, .class_ 122), (0, u "java/util/LinkedHashMap$LinkedKeySet"), (20, .class_ 144), (0, u "java/util/LinkedHashMap$LinkedValues"), (9, .class_ 155), (0, u "java/util/LinkedHashMap$LinkedEntrySet"), (44, .class_ 201), (0, u "java/util/LinkedHashMap$ReversedLinkedHashMapView"), (3, .class_ 206), (0, u "java/util/SequencedMap"), (0, u "serialVersionUID"), (0, u "J"), (5, u "PUT_NORM"), (1, u "PUT_FIRST"), (1, u "PUT_LAST"), (143, .class_ 363), (0, u "java/util/LinkedHashMap$LinkedEntryIterator"), (0, .class_ 365), (0, u "java/util/LinkedHashMap$LinkedValueIterator"), (0, .class_ 367), (0, u "java/util/LinkedHashMap$LinkedKeyIterator"), (0, .class_ 369), (0, u "java/util/LinkedHashMap$LinkedHashIterator")] 16

def k28c0 : Code := { maxStack := 3, maxLocals := 3, code := jdk_94_method_14_code, exceptionTable := #[], attributes := #[] }
def k28m0 : Method := { name := "<init>", desc := "(IF)V", sig := { parameters := [.int, .float], returnType := none }, accessFlags := 1, code := some k28c0 }
def k28m1 : Method := { name := "<init>", desc := "()V", sig := { parameters := [], returnType := none }, accessFlags := 1, code := none }
/-- java/util/LinkedHashMap -/
def k28 : Class := { plain "java/util/LinkedHashMap" (some 7) with
  accessFlags := 33
  interfaces := #[27]
  cf := some (fileOf pool28 2 #[.nestMembers #[200, 362, 364, 366, 368, 154, 143, 121, 15]] #[{ accessFlags := 1, nameIndex := 30, descriptorIndex := 83, attributes := #[] }, { accessFlags := 1, nameIndex := 30, descriptorIndex := 27, attributes := #[] }] 33 23 #[205] #[{ accessFlags := 26, nameIndex := 207, descriptorIndex := 208, attributes := #[] }, { accessFlags := 128, nameIndex := 9, descriptorIndex := 10, attributes := #[] }, { accessFlags := 128, nameIndex := 13, descriptorIndex := 10, attributes := #[] }, { accessFlags := 16, nameIndex := 66, descriptorIndex := 67, attributes := #[] }, { accessFlags := 24, nameIndex := 214, descriptorIndex := 6, attributes := #[] }, { accessFlags := 24, nameIndex := 216, descriptorIndex := 6, attributes := #[] }, { accessFlags := 24, nameIndex := 218, descriptorIndex := 6, attributes := #[] }, { accessFlags := 128, nameIndex := 5, descriptorIndex := 6, attributes := #[] }])
  fields := #[{ name := "serialVersionUID", type := .long, accessFlags := 26, slot := 0, constantValue := 0 }, { name := "head", type := (.object "java/util/LinkedHashMap$Entry"), accessFlags := 128, slot := 8, constantValue := 0 }, { name := "tail", type := (.object "java/util/LinkedHashMap$Entry"), accessFlags := 128, slot := 9, constantValue := 0 }, { name := "accessOrder", type := .boolean, accessFlags := 16, slot := 10, constantValue := 0 }, { name := "PUT_NORM", type := .int, accessFlags := 24, slot := 1, constantValue := 0 }, { name := "PUT_FIRST", type := .int, accessFlags := 24, slot := 2, constantValue := 0 }, { name := "PUT_LAST", type := .int, accessFlags := 24, slot := 3, constantValue := 0 }, { name := "putMode", type := .int, accessFlags := 128, slot := 11, constantValue := 0 }]
  methods := #[k28m0, k28m1]
  instanceTypes := #[(.object "java/util/Set"), (.object "java/util/Collection"), (.array (.object "java/util/HashMap$Node")), (.object "java/util/Set"), .int, .int, .int, .float, (.object "java/util/LinkedHashMap$Entry"), (.object "java/util/LinkedHashMap$Entry"), .boolean, .int]
  staticTypes := #[.long, .int, .int, .int]
  resolved := Array.replicate 386 none
  statics := none }

def pool29 : Array CpInfo := pool [(2, .class_ 4), (1, u "java/lang/Object"), (0, u "<init>"), (0, u "()V"), (1, .class_ 10), (1, u "java/lang/Number"), (2, .class_ 14), (0, u "java/io/Serializable"), (0, u "serialVersionUID"), (0, u "J")] 20

def k29m0 : Method := { name := "<init>", desc := "()V", sig := { parameters := [], returnType := none }, accessFlags := 1, code := none }
/-- java/lang/Number -/
def k29 : Class := { plain "java/lang/Number" (some 0) with
  accessFlags := 1057
  interfaces := #[6]
  cf := some (fileOf pool29 8 #[] #[{ accessFlags := 1, nameIndex := 5, descriptorIndex := 6, attributes := #[] }] 1057 2 #[13] #[{ accessFlags := 26, nameIndex := 15, descriptorIndex := 16, attributes := #[] }])
  fields := #[{ name := "serialVersionUID", type := .long, accessFlags := 26, slot := 0, constantValue := 0 }]
  methods := #[k29m0]
  instanceTypes := #[]
  staticTypes := #[.long]
  resolved := Array.replicate 37 none
  statics := none }

def pool30 : Array CpInfo := pool [(1, .class_ 2), (0, u "java/lang/Float"), (48, .class_ 53), (1, u "java/lang/Number"), (3, u "value"), (0, u "F"), (2, u "isNaN"), (0, u "(F)Z"), (28, u "$assertionsDisabled"), (0, u "Z"), (52, u "TYPE"), (0, u "Ljava/lang/Class;"), (0, .class_ 148), (0, u "java/lang/Comparable"), (0, .class_ 150), (0, u "java/lang/constant/Constable"), (0, .class_ 152), (0, u "java/lang/constant/ConstantDesc"), (0, u "POSITIVE_INFINITY"), (1, u "NEGATIVE_INFINITY"), (1, u "NaN"), (1, u "MAX_VALUE"), (0, u "MIN_NORMAL"), (0, u "MIN_VALUE"), (1, u "SIZE"), (0, u "I"), (1, u "PRECISION"), (1, u "MAX_EXPONENT"), (1, u "MIN_EXPONENT"), (1, u "BYTES"), (3, u "serialVersionUID"), (0, u "J")] 101

def k30c0 : Code := { maxStack := 2, maxLocals := 1, code := jdk_118_method_6_code, exceptionTable := #[], attributes := #[] }
def k30m0 : Method := { name := "isNaN", desc := "(F)Z", sig := { parameters := [.float], returnType := some .boolean }, accessFlags := 9, code := some k30c0 }
/-- java/lang/Float -/
def k30 : Class := { plain "java/lang/Float" (some 29) with
  accessFlags := 49
  interfaces := #[9, 11, 12]
  cf := some (fileOf pool30 1 #[] #[{ accessFlags := 9, nameIndex := 61, descriptorIndex := 62, attributes := #[] }] 49 51 #[147, 149, 151] #[{ accessFlags := 25, nameIndex := 153, descriptorIndex := 58, attributes := #[] }, { accessFlags := 25, nameIndex := 155, descriptorIndex := 58, attributes := #[] }, { accessFlags := 25, nameIndex := 157, descriptorIndex := 58, attributes := #[] }, { accessFlags := 25, nameIndex := 159, descriptorIndex := 58, attributes := #[] }, { accessFlags := 25, nameIndex := 160, descriptorIndex := 58, attributes := #[] }, { accessFlags := 25, nameIndex := 161, descriptorIndex := 58, attributes := #[] }, { accessFlags := 25, nameIndex := 163, descriptorIndex := 164, attributes := #[] }, { accessFlags := 25, nameIndex := 166, descriptorIndex := 164, attributes := #[] }, { accessFlags := 25, nameIndex := 168, descriptorIndex := 164, attributes := #[] }, { accessFlags := 25, nameIndex := 170, descriptorIndex := 164, attributes := #[] }, { accessFlags := 25, nameIndex := 172, descriptorIndex := 164, attributes := #[] }, { accessFlags := 25, nameIndex := 145, descriptorIndex := 146, attributes := #[] }, { accessFlags := 18, nameIndex := 57, descriptorIndex := 58, attributes := #[] }, { accessFlags := 26, nameIndex := 176, descriptorIndex := 177, attributes := #[] }, { accessFlags := 4120, nameIndex := 91, descriptorIndex := 92, attributes := #[] }])
  fields := #[{ name := "POSITIVE_INFINITY", type := .float, accessFlags := 25, slot := 0, constantValue := 0 }, { name := "NEGATIVE_INFINITY", type := .float, accessFlags := 25, slot := 1, constantValue := 0 }, { name := "NaN", type := .float, accessFlags := 25, slot := 2, constantValue := 0 }, { name := "MAX_VALUE", type := .float, accessFlags := 25, slot := 3, constantValue := 0 }, { name := "MIN_NORMAL", type := .float, accessFlags := 25, slot := 4, constantValue := 0 }, { name := "MIN_VALUE", type := .float, accessFlags := 25, slot := 5, constantValue := 0 }, { name := "SIZE", type := .int, accessFlags := 25, slot := 6, constantValue := 0 }, { name := "PRECISION", type := .int, accessFlags := 25, slot := 7, constantValue := 0 }, { name := "MAX_EXPONENT", type := .int, accessFlags := 25, slot := 8, constantValue := 0 }, { name := "MIN_EXPONENT", type := .int, accessFlags := 25, slot := 9, constantValue := 0 }, { name := "BYTES", type := .int, accessFlags := 25, slot := 10, constantValue := 0 }, { name := "TYPE", type := (.object "java/lang/Class"), accessFlags := 25, slot := 11, constantValue := 0 }, { name := "value", type := .float, accessFlags := 18, slot := 0, constantValue := 0 }, { name := "serialVersionUID", type := .long, accessFlags := 26, slot := 12, constantValue := 0 }, { name := "$assertionsDisabled", type := .boolean, accessFlags := 4120, slot := 13, constantValue := 0 }]
  methods := #[k30m0]
  instanceTypes := #[.float]
  staticTypes := #[.float, .float, .float, .float, .float, .float, .int, .int, .int, .int, .int, (.object "java/lang/Class"), .long, .boolean]
  resolved := Array.replicate 279 none
  statics := none }

def pool31 : Array CpInfo := pool [(1, .class_ 2), (0, u "java/lang/Integer"), (16, u "digits"), (0, u "[C"), (32, u "numberOfLeadingZeros"), (0, u "(I)I"), (30, u "DigitOnes"), (0, u "[B"), (2, u "DigitTens"), (99, .class_ 190), (0, u "java/lang/Integer$IntegerCache"), (3, u "I"), (8, .class_ 204), (0, u "java/lang/Number"), (2, u "value"), (56, .integer 65536), (37, u "TYPE"), (0, u "Ljava/lang/Class;"), (0, .class_ 305), (0, u "java/lang/Comparable"), (0, .class_ 307), (0, u "java/lang/constant/Constable"), (0, .class_ 309), (0, u "java/lang/constant/ConstantDesc"), (0, u "MIN_VALUE"), (1, u "MAX_VALUE"), (3, u "SIZE"), (1, u "BYTES"), (1, u "serialVersionUID"), (0, u "J")] 131

def k31c0 : Code := { maxStack := 3, maxLocals := 2, code := jdk_33_method_47_code, exceptionTable := #[], attributes := #[] }
def k31m0 : Method := { name := "numberOfLeadingZeros", desc := "(I)I", sig := { parameters := [.int], returnType := some .int }, accessFlags := 9, code := some k31c0 }
/-- java/lang/Integer -/
def k31 : Class := { plain "java/lang/Integer" (some 29) with
  accessFlags := 49
  interfaces := #[9, 11, 12]
  cf := some (fileOf pool31 1 #[.nestMembers #[189]] #[{ accessFlags := 9, nameIndex := 53, descriptorIndex := 54, attributes := #[] }] 49 203 #[304, 306, 308] #[{ accessFlags := 25, nameIndex := 310, descriptorIndex := 194, attributes := #[] }, { accessFlags := 25, nameIndex := 312, descriptorIndex := 194, attributes := #[] }, { accessFlags := 25, nameIndex := 302, descriptorIndex := 303, attributes := #[] }, { accessFlags := 24, nameIndex := 19, descriptorIndex := 20, attributes := #[] }, { accessFlags := 24, nameIndex := 89, descriptorIndex := 86, attributes := #[] }, { accessFlags := 24, nameIndex := 85, descriptorIndex := 86, attributes := #[] }, { accessFlags := 18, nameIndex := 207, descriptorIndex := 194, attributes := #[] }, { accessFlags := 25, nameIndex := 316, descriptorIndex := 194, attributes := #[] }, { accessFlags := 25, nameIndex := 318, descriptorIndex := 194, attributes := #[] }, { accessFlags := 26, nameIndex := 320, descriptorIndex := 321, attributes := #[] }])
  fields := #[{ name := "MIN_VALUE", type := .int, accessFlags := 25, slot := 0, constantValue := 0 }, { name := "MAX_VALUE", type := .int, accessFlags := 25, slot := 1, constantValue := 0 }, { name := "TYPE", type := (.object "java/lang/Class"), accessFlags := 25, slot := 2, constantValue := 0 }, { name := "digits", type := (.array .char), accessFlags := 24, slot := 3, constantValue := 0 }, { name := "DigitTens", type := (.array .byte), accessFlags := 24, slot := 4, constantValue := 0 }, { name := "DigitOnes", type := (.array .byte), accessFlags := 24, slot := 5, constantValue := 0 }, { name := "value", type := .int, accessFlags := 18, slot := 0, constantValue := 0 }, { name := "SIZE", type := .int, accessFlags := 25, slot := 6, constantValue := 0 }, { name := "BYTES", type := .int, accessFlags := 25, slot := 7, constantValue := 0 }, { name := "serialVersionUID", type := .long, accessFlags := 26, slot := 8, constantValue := 0 }]
  methods := #[k31m0]
  instanceTypes := #[.int]
  staticTypes := #[.int, .int, (.object "java/lang/Class"), (.array .char), (.array .byte), (.array .byte), .int, .int, .long]
  resolved := Array.replicate 453 none
  statics := none }

/-- the primitive byte -/
def k32 : Class := { plain "byte" none with kind := .primitive 'B', accessFlags := 0x411 }
/-- [B -/
def k33 : Class := { plain "[B" (some 0) with kind := .array 32 .byte, interfaces := #[5, 6], accessFlags := 1041 }

/-- the primitive int -/
def k34 : Class := { plain "int" none with kind := .primitive 'I', accessFlags := 0x411 }
/-- [I -/
def k35 : Class := { plain "[I" (some 0) with kind := .array 34 .int, interfaces := #[5, 6], accessFlags := 1041 }

/-- [Ljava/lang/Object; -/
def k36 : Class := { plain "[Ljava/lang/Object;" (some 0) with kind := .array 0 (.object "java/lang/Object"), interfaces := #[5, 6], accessFlags := 1041 }

def heap : Heap := #[{ cls := 21, slots := #[.long 0, .int 0, .ref 1, .ref 2], vm := .statics 21 },
  { cls := 36, slots := #[], vm := .none },
  { cls := 36, slots := #[], vm := .none }]
def classes : Array Class := #[k0, k1, k2, k3, k4, k5, k6, k7, k8, k9, k10, k11, k12, k13, k14, k15, k16, k17, k18, k19, k20, k21, k22, k23, k24, k25, k26, k27, k28, k29, k30, k31, k32, k33, k34, k35, k36]
def interned : List (Array UInt16 × Addr) := []
def slotsUsed : Nat := 4
def theMethod : MethodId := ⟨1, 1⟩
def args0 : Array Value := #[.int 7]
def aboutOver (below : List Frame) : State where
  vm := { classes := classes, interned := interned.toArray }
  heap := heap
  slotsUsed := slotsUsed
  threads := #[{ frames := .invoking theMethod args0 :: below }]
def below0 : List Frame := [.native { method := ⟨0, 0⟩, args := #[] }]
def about1 : State := aboutOver below0
def p0 : Program := .bare "" "" ""
def e0 : Env := launch0.env 0 0 0
theorem w_frames : about1.frames = Frame.invoking theMethod args0 :: below0 := rfl
set_option maxRecDepth 65536 in
theorem w_args : argsFit about1.vm theMethod args0 = true := by decide +kernel
set_option maxRecDepth 65536 in
theorem w_heap : heapFits about1 = true := by decide +kernel
set_option maxRecDepth 65536 in
theorem w_runnable : about1.curStatus? = some .runnable := by decide +kernel
set_option maxRecDepth 65536 in
theorem w_alone : about1.alone = true := by decide +kernel
set_option maxRecDepth 65536 in
theorem w_named : about1.methodNamed? x = some theMethod := by decide +kernel
set_option maxRecDepth 65536 in
theorem w_hears : about1.hears theMethod below0 = true := by decide +kernel
set_option maxRecDepth 65536 in
theorem w_ripe : about1.ripe theMethod args0 below0 = true := by decide +kernel
theorem w_running : about1.status = .running := rfl
set_option maxRecDepth 65536 in
theorem w_room : about1.hasRoom e0.platform room_1 = true :=
  launch0.hasRoom_least _ room_1 (by decide +kernel) (by decide +kernel) (by decide +kernel) (by decide +kernel) (by decide +kernel) (by decide +kernel)
theorem allAtoms_all (ts : List Jvm.Cond) (a : Array Jvm.Value) (st : Jvm.State) : (allAtoms ts).before a st = ts.all (fun c => c.before a st) := by
  induction ts with
  | nil => rfl
  | cons c t ih =>
    show (Jvm.Cond.and c (allAtoms t)).before a st = _
    rw [Jvm.Cond.before_and, ih, List.all_cons]
def words1 : List Jvm.Cond := Jvm.Cond.code x code maxLocals ret :: tables_1
/-- a 'code' word, met by the world's own term for the bytes: nothing is compared byte by byte -/
theorem code_word {y : MethodName} {bytes : ByteArray} {mx : Nat} {rt : Option FieldType} {a : Array Value} {s : State} {m : MethodId} {meth : Method} {c : Code} (h1 : s.methodNamed? y = some m) (h2 : s.vm.method? m = some meth) (h3 : meth.code = some c) (h4 : c.code = bytes)
    (h5 : (c.maxLocals == mx && c.exceptionTable.isEmpty && decide (c.maxStack ≤ mostOperands) && decide (meth.sig.returnType = rt) && !meth.locks && decide (parseMethodDescriptor y.desc = some meth.sig)) = true) : (Jvm.Cond.code y bytes mx rt).before a s = true := by
  simp only [Bool.and_eq_true, beq_iff_eq, Bool.not_eq_true', decide_eq_true_eq] at h5
  obtain ⟨⟨⟨⟨⟨g1, g2⟩, g3⟩, g4⟩, g5⟩, g6⟩ := h5
  simp [Cond.before, Cond.holds, Cond.value, h1, h2, h3, h4, g1, g2, g3, g4, g5, g6]
def isCode : Jvm.Cond → Bool
  | .code _ _ _ _ => true
  | _ => false
theorem all_split {L : List Jvm.Cond} {P : Jvm.Cond → Bool} (h1 : L.all (fun c => isCode c || P c) = true) (h2 : ∀ c ∈ L.filter isCode, P c = true) : L.all P = true := by
  refine List.all_eq_true.mpr fun c hc => ?_
  have h := List.all_eq_true.mp h1 c hc
  rcases Bool.eq_false_or_eq_true (isCode c) with hi | hi
  · exact h2 c (List.mem_filter.mpr ⟨hc, hi⟩)
  · simpa [hi] using h
set_option maxRecDepth 65536 in
theorem w_c0 : (Jvm.Cond.code x code maxLocals ret).before args0 about1 = true := code_word (m := ⟨1, 1⟩) (meth := k1m1) (c := k1c1) (by decide +kernel) rfl rfl rfl (by decide +kernel)
set_option maxRecDepth 65536 in
theorem w_c1 : (Jvm.Cond.code ({ cls := "com/example/role_delegation/roledelegation/Hierarchy", name := "<init>", desc := "()V" } : Jvm.MethodName) prog_28_method_1_code (1 : Nat) (Option.none : Option Jvm.ClassFile.FieldType)).before args0 about1 = true := code_word (m := ⟨2, 0⟩) (meth := k2m0) (c := k2c0) (by decide +kernel) rfl rfl rfl (by decide +kernel)
set_option maxRecDepth 65536 in
theorem w_c2 : (Jvm.Cond.code ({ cls := "java/lang/Object", name := "<init>", desc := "()V" } : Jvm.MethodName) object_method_1_code (1 : Nat) (Option.none : Option Jvm.ClassFile.FieldType)).before args0 about1 = true := code_word (m := ⟨0, 0⟩) (meth := k0m0) (c := k0c0) (by decide +kernel) rfl rfl rfl (by decide +kernel)
set_option maxRecDepth 65536 in
theorem w_c3 : (Jvm.Cond.code ({ cls := "java/util/HashMap", name := "<init>", desc := "()V" } : Jvm.MethodName) jdk_69_method_7_code (1 : Nat) (Option.none : Option Jvm.ClassFile.FieldType)).before args0 about1 = true := code_word (m := ⟨7, 2⟩) (meth := k7m2) (c := k7c2) (by decide +kernel) rfl rfl rfl (by decide +kernel)
set_option maxRecDepth 65536 in
theorem w_c4 : (Jvm.Cond.code ({ cls := "java/util/AbstractMap", name := "<init>", desc := "()V" } : Jvm.MethodName) jdk_71_method_1_code (1 : Nat) (Option.none : Option Jvm.ClassFile.FieldType)).before args0 about1 = true := code_word (m := ⟨4, 0⟩) (meth := k4m0) (c := k4c0) (by decide +kernel) rfl rfl rfl (by decide +kernel)
set_option maxRecDepth 65536 in
theorem w_c5 : (Jvm.Cond.code ({ cls := "com/example/role_delegation/roledelegation/Hierarchy", name := "number", desc := "()I" } : Jvm.MethodName) prog_28_method_2_code (1 : Nat) (Option.some Jvm.ClassFile.FieldType.int)).before args0 about1 = true := code_word (m := ⟨2, 1⟩) (meth := k2m1) (c := k2c1) (by decide +kernel) rfl rfl rfl (by decide +kernel)
set_option maxRecDepth 65536 in
theorem w_c6 : (Jvm.Cond.code ({ cls := "com/example/role_delegation/roledelegation/Hierarchy", name := "changes", desc := "()I" } : Jvm.MethodName) prog_28_method_4_code (1 : Nat) (Option.some Jvm.ClassFile.FieldType.int)).before args0 about1 = true := code_word (m := ⟨2, 3⟩) (meth := k2m3) (c := k2c3) (by decide +kernel) rfl rfl rfl (by decide +kernel)
set_option maxRecDepth 65536 in
theorem w_c7 : (Jvm.Cond.code ({ cls := "com/example/role_delegation/roledelegation/Hierarchy", name := "changed", desc := "()V" } : Jvm.MethodName) prog_28_method_3_code (1 : Nat) (Option.none : Option Jvm.ClassFile.FieldType)).before args0 about1 = true := code_word (m := ⟨2, 2⟩) (meth := k2m2) (c := k2c2) (by decide +kernel) rfl rfl rfl (by decide +kernel)
set_option maxRecDepth 65536 in
theorem w_c8 : (Jvm.Cond.code ({ cls := "com/example/role_delegation/roledelegation/Role", name := "<init>", desc := "(Ljava/lang/String;Lcom/example/role_delegation/roledelegation/Hierarchy;)V" } : Jvm.MethodName) prog_56_method_1_code (3 : Nat) (Option.none : Option Jvm.ClassFile.FieldType)).before args0 about1 = true := code_word (m := ⟨8, 0⟩) (meth := k8m0) (c := k8c0) (by decide +kernel) rfl rfl rfl (by decide +kernel)
set_option maxRecDepth 65536 in
theorem w_c9 : (Jvm.Cond.code ({ cls := "java/util/ArrayList", name := "<init>", desc := "()V" } : Jvm.MethodName) jdk_38_method_2_code (1 : Nat) (Option.none : Option Jvm.ClassFile.FieldType)).before args0 about1 = true := code_word (m := ⟨21, 0⟩) (meth := k21m0) (c := k21c0) (by decide +kernel) rfl rfl rfl (by decide +kernel)
set_option maxRecDepth 65536 in
theorem w_c10 : (Jvm.Cond.code ({ cls := "java/util/AbstractList", name := "<init>", desc := "()V" } : Jvm.MethodName) jdk_39_method_1_code (1 : Nat) (Option.none : Option Jvm.ClassFile.FieldType)).before args0 about1 = true := code_word (m := ⟨19, 0⟩) (meth := k19m0) (c := k19c0) (by decide +kernel) rfl rfl rfl (by decide +kernel)
set_option maxRecDepth 65536 in
theorem w_c11 : (Jvm.Cond.code ({ cls := "java/util/AbstractCollection", name := "<init>", desc := "()V" } : Jvm.MethodName) jdk_22_method_1_code (1 : Nat) (Option.none : Option Jvm.ClassFile.FieldType)).before args0 about1 = true := code_word (m := ⟨16, 0⟩) (meth := k16m0) (c := k16c0) (by decide +kernel) rfl rfl rfl (by decide +kernel)
set_option maxRecDepth 65536 in
theorem w_c12 : (Jvm.Cond.code ({ cls := "java/util/LinkedHashSet", name := "<init>", desc := "()V" } : Jvm.MethodName) jdk_2620_method_3_code (1 : Nat) (Option.none : Option Jvm.ClassFile.FieldType)).before args0 about1 = true := code_word (m := ⟨26, 0⟩) (meth := k26m0) (c := k26c0) (by decide +kernel) rfl rfl rfl (by decide +kernel)
set_option maxRecDepth 65536 in
theorem w_c13 : (Jvm.Cond.code ({ cls := "java/util/HashSet", name := "<init>", desc := "(IFZ)V" } : Jvm.MethodName) jdk_93_method_5_code (4 : Nat) (Option.none : Option Jvm.ClassFile.FieldType)).before args0 about1 = true := code_word (m := ⟨24, 1⟩) (meth := k24m1) (c := k24c1) (by decide +kernel) rfl rfl rfl (by decide +kernel)
set_option maxRecDepth 65536 in
theorem w_c14 : (Jvm.Cond.code ({ cls := "java/util/AbstractSet", name := "<init>", desc := "()V" } : Jvm.MethodName) jdk_91_method_1_code (1 : Nat) (Option.none : Option Jvm.ClassFile.FieldType)).before args0 about1 = true := code_word (m := ⟨23, 0⟩) (meth := k23m0) (c := k23c0) (by decide +kernel) rfl rfl rfl (by decide +kernel)
set_option maxRecDepth 65536 in
theorem w_c15 : (Jvm.Cond.code ({ cls := "java/util/LinkedHashMap", name := "<init>", desc := "(IF)V" } : Jvm.MethodName) jdk_94_method_14_code (3 : Nat) (Option.none : Option Jvm.ClassFile.FieldType)).before args0 about1 = true := code_word (m := ⟨28, 0⟩) (meth := k28m0) (c := k28c0) (by decide +kernel) rfl rfl rfl (by decide +kernel)
set_option maxRecDepth 65536 in
theorem w_c16 : (Jvm.Cond.code ({ cls := "java/util/HashMap", name := "<init>", desc := "(IF)V" } : Jvm.MethodName) jdk_69_method_5_code (3 : Nat) (Option.none : Option Jvm.ClassFile.FieldType)).before args0 about1 = true := code_word (m := ⟨7, 1⟩) (meth := k7m1) (c := k7c1) (by decide +kernel) rfl rfl rfl (by decide +kernel)
set_option maxRecDepth 65536 in
theorem w_c17 : (Jvm.Cond.code ({ cls := "java/lang/Float", name := "isNaN", desc := "(F)Z" } : Jvm.MethodName) jdk_118_method_6_code (1 : Nat) (Option.some Jvm.ClassFile.FieldType.boolean)).before args0 about1 = true := code_word (m := ⟨30, 0⟩) (meth := k30m0) (c := k30c0) (by decide +kernel) rfl rfl rfl (by decide +kernel)
set_option maxRecDepth 65536 in
theorem w_c18 : (Jvm.Cond.code ({ cls := "java/util/HashMap", name := "tableSizeFor", desc := "(I)I" } : Jvm.MethodName) jdk_69_method_4_code (2 : Nat) (Option.some Jvm.ClassFile.FieldType.int)).before args0 about1 = true := code_word (m := ⟨7, 0⟩) (meth := k7m0) (c := k7c0) (by decide +kernel) rfl rfl rfl (by decide +kernel)
set_option maxRecDepth 65536 in
theorem w_c19 : (Jvm.Cond.code ({ cls := "java/lang/Integer", name := "numberOfLeadingZeros", desc := "(I)I" } : Jvm.MethodName) jdk_33_method_47_code (2 : Nat) (Option.some Jvm.ClassFile.FieldType.int)).before args0 about1 = true := code_word (m := ⟨31, 0⟩) (meth := k31m0) (c := k31c0) (by decide +kernel) rfl rfl rfl (by decide +kernel)
set_option maxRecDepth 65536 in
theorem w_c20 : (Jvm.Cond.code ({ cls := "com/example/role_delegation/roledelegation/Role", name := "number", desc := "()I" } : Jvm.MethodName) prog_56_method_2_code (1 : Nat) (Option.some Jvm.ClassFile.FieldType.int)).before args0 about1 = true := code_word (m := ⟨8, 1⟩) (meth := k8m1) (c := k8c1) (by decide +kernel) rfl rfl rfl (by decide +kernel)
def codes1 : List Jvm.Cond := [Jvm.Cond.code x code maxLocals ret, Jvm.Cond.code ({ cls := "com/example/role_delegation/roledelegation/Hierarchy", name := "<init>", desc := "()V" } : Jvm.MethodName) prog_28_method_1_code (1 : Nat) (Option.none : Option Jvm.ClassFile.FieldType), Jvm.Cond.code ({ cls := "java/lang/Object", name := "<init>", desc := "()V" } : Jvm.MethodName) object_method_1_code (1 : Nat) (Option.none : Option Jvm.ClassFile.FieldType), Jvm.Cond.code ({ cls := "java/util/HashMap", name := "<init>", desc := "()V" } : Jvm.MethodName) jdk_69_method_7_code (1 : Nat) (Option.none : Option Jvm.ClassFile.FieldType), Jvm.Cond.code ({ cls := "java/util/AbstractMap", name := "<init>", desc := "()V" } : Jvm.MethodName) jdk_71_method_1_code (1 : Nat) (Option.none : Option Jvm.ClassFile.FieldType), Jvm.Cond.code ({ cls := "com/example/role_delegation/roledelegation/Hierarchy", name := "number", desc := "()I" } : Jvm.MethodName) prog_28_method_2_code (1 : Nat) (Option.some Jvm.ClassFile.FieldType.int), Jvm.Cond.code ({ cls := "com/example/role_delegation/roledelegation/Hierarchy", name := "changes", desc := "()I" } : Jvm.MethodName) prog_28_method_4_code (1 : Nat) (Option.some Jvm.ClassFile.FieldType.int), Jvm.Cond.code ({ cls := "com/example/role_delegation/roledelegation/Hierarchy", name := "changed", desc := "()V" } : Jvm.MethodName) prog_28_method_3_code (1 : Nat) (Option.none : Option Jvm.ClassFile.FieldType), Jvm.Cond.code ({ cls := "com/example/role_delegation/roledelegation/Role", name := "<init>", desc := "(Ljava/lang/String;Lcom/example/role_delegation/roledelegation/Hierarchy;)V" } : Jvm.MethodName) prog_56_method_1_code (3 : Nat) (Option.none : Option Jvm.ClassFile.FieldType), Jvm.Cond.code ({ cls := "java/util/ArrayList", name := "<init>", desc := "()V" } : Jvm.MethodName) jdk_38_method_2_code (1 : Nat) (Option.none : Option Jvm.ClassFile.FieldType), Jvm.Cond.code ({ cls := "java/util/AbstractList", name := "<init>", desc := "()V" } : Jvm.MethodName) jdk_39_method_1_code (1 : Nat) (Option.none : Option Jvm.ClassFile.FieldType), Jvm.Cond.code ({ cls := "java/util/AbstractCollection", name := "<init>", desc := "()V" } : Jvm.MethodName) jdk_22_method_1_code (1 : Nat) (Option.none : Option Jvm.ClassFile.FieldType), Jvm.Cond.code ({ cls := "java/util/LinkedHashSet", name := "<init>", desc := "()V" } : Jvm.MethodName) jdk_2620_method_3_code (1 : Nat) (Option.none : Option Jvm.ClassFile.FieldType), Jvm.Cond.code ({ cls := "java/util/HashSet", name := "<init>", desc := "(IFZ)V" } : Jvm.MethodName) jdk_93_method_5_code (4 : Nat) (Option.none : Option Jvm.ClassFile.FieldType), Jvm.Cond.code ({ cls := "java/util/AbstractSet", name := "<init>", desc := "()V" } : Jvm.MethodName) jdk_91_method_1_code (1 : Nat) (Option.none : Option Jvm.ClassFile.FieldType), Jvm.Cond.code ({ cls := "java/util/LinkedHashMap", name := "<init>", desc := "(IF)V" } : Jvm.MethodName) jdk_94_method_14_code (3 : Nat) (Option.none : Option Jvm.ClassFile.FieldType), Jvm.Cond.code ({ cls := "java/util/HashMap", name := "<init>", desc := "(IF)V" } : Jvm.MethodName) jdk_69_method_5_code (3 : Nat) (Option.none : Option Jvm.ClassFile.FieldType), Jvm.Cond.code ({ cls := "java/lang/Float", name := "isNaN", desc := "(F)Z" } : Jvm.MethodName) jdk_118_method_6_code (1 : Nat) (Option.some Jvm.ClassFile.FieldType.boolean), Jvm.Cond.code ({ cls := "java/util/HashMap", name := "tableSizeFor", desc := "(I)I" } : Jvm.MethodName) jdk_69_method_4_code (2 : Nat) (Option.some Jvm.ClassFile.FieldType.int), Jvm.Cond.code ({ cls := "java/lang/Integer", name := "numberOfLeadingZeros", desc := "(I)I" } : Jvm.MethodName) jdk_33_method_47_code (2 : Nat) (Option.some Jvm.ClassFile.FieldType.int), Jvm.Cond.code ({ cls := "com/example/role_delegation/roledelegation/Role", name := "number", desc := "()I" } : Jvm.MethodName) prog_56_method_2_code (1 : Nat) (Option.some Jvm.ClassFile.FieldType.int)]
set_option maxRecDepth 65536 in
theorem codes_eq : words1.filter isCode = codes1 := rfl
theorem w_codes : ∀ c ∈ words1.filter isCode, c.before args0 about1 = true := by
  rw [codes_eq]
  intro c hc
  simp only [codes1, List.mem_cons, List.not_mem_nil, or_false] at hc
  rcases hc with rfl | rfl | rfl | rfl | rfl | rfl | rfl | rfl | rfl | rfl | rfl | rfl | rfl | rfl | rfl | rfl | rfl | rfl | rfl | rfl | rfl
  · exact w_c0
  · exact w_c1
  · exact w_c2
  · exact w_c3
  · exact w_c4
  · exact w_c5
  · exact w_c6
  · exact w_c7
  · exact w_c8
  · exact w_c9
  · exact w_c10
  · exact w_c11
  · exact w_c12
  · exact w_c13
  · exact w_c14
  · exact w_c15
  · exact w_c16
  · exact w_c17
  · exact w_c18
  · exact w_c19
  · exact w_c20
set_option maxRecDepth 65536 in
theorem w_t1 : (words1.take 24).all (fun c => isCode c || c.before args0 about1) = true := by decide +kernel
set_option maxRecDepth 65536 in
theorem w_t2 : ((words1.drop 24).take 24).all (fun c => isCode c || c.before args0 about1) = true := by decide +kernel
set_option maxRecDepth 65536 in
theorem w_t3 : (((words1.drop 24).drop 24).take 24).all (fun c => isCode c || c.before args0 about1) = true := by decide +kernel
set_option maxRecDepth 65536 in
theorem w_t4 : ((((words1.drop 24).drop 24).drop 24).take 24).all (fun c => isCode c || c.before args0 about1) = true := by decide +kernel
set_option maxRecDepth 65536 in
theorem w_t5 : (((((words1.drop 24).drop 24).drop 24).drop 24).take 24).all (fun c => isCode c || c.before args0 about1) = true := by decide +kernel
set_option maxRecDepth 65536 in
theorem w_t6 : ((((((words1.drop 24).drop 24).drop 24).drop 24).drop 24).take 24).all (fun c => isCode c || c.before args0 about1) = true := by decide +kernel
set_option maxRecDepth 65536 in
theorem w_t7 : ((((((words1.drop 24).drop 24).drop 24).drop 24).drop 24).drop 24).all (fun c => isCode c || c.before args0 about1) = true := by decide +kernel
theorem w_tables : (allAtoms (Jvm.Cond.code x code maxLocals ret :: tables_1)).before args0 about1 = true := by
  rw [allAtoms_all]
  show words1.all (fun c => c.before args0 about1) = true
  refine all_split ?_ w_codes
  rw [← List.take_append_drop 24 words1, List.all_append, w_t1, ← List.take_append_drop 24 (words1.drop 24), List.all_append, w_t2, ← List.take_append_drop 24 ((words1.drop 24).drop 24), List.all_append, w_t3, ← List.take_append_drop 24 (((words1.drop 24).drop 24).drop 24), List.all_append, w_t4, ← List.take_append_drop 24 ((((words1.drop 24).drop 24).drop 24).drop 24), List.all_append, w_t5, ← List.take_append_drop 24 (((((words1.drop 24).drop 24).drop 24).drop 24).drop 24), List.all_append, w_t6, w_t7]
  rfl
set_option maxRecDepth 65536 in
theorem w_rest : rest_1_c.before args0 about1 = true := by decide +kernel
set_option maxRecDepth 65536 in
theorem w_case : (Jvm.Cond.and given_1 narrow_1).before args0 about1 = true := by decide +kernel
theorem w_applies : (headSpec (Jvm.Cond.code x code maxLocals ret :: tables_1) room_1).applies x e0.platform about1 = true :=
  (Spec.applies_iff w_frames).mpr ⟨w_running, w_runnable, w_alone, w_named, w_hears, w_ripe, w_room, w_tables⟩
theorem atStart : AtStart classFile x code maxLocals ret World_1 tables_1 room_1 Calls_1 rest_1 Pre_1 launch0 p0 e0 about1 theMethod args0 below0 :=
  ⟨lists_1, trivial, launch0.admits_env _ _ _, launch0.least_env, fairChoices_fair.cas, fairChoices_fair.clock, w_frames, w_args, w_heap, w_applies, trivial, w_rest, w_case⟩
end start1
theorem witness_1 : WitnessClaimed_1 := ⟨start1.p0, start1.e0, start1.about1, start1.theMethod, start1.args0, start1.below0, start1.atStart⟩
end Jvm.Pilot.@@N@@
