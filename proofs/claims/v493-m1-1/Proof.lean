import JvmDerived
import JvmDerived.Pilot.@@N@@Statement
import JvmDerived.Pilot.@@N@@Code
set_option linter.unusedVariables false
set_option linter.unusedSimpArgs false
namespace Jvm.Pilot.@@N@@
open Jvm Jvm.ClassFile Sem Op Lib Jvm.Free Jvm.Stand Jvm.LawKit Jvm.RoadKit Bundle Jvm.Pilot.@@N@@.Jvm.D
/-- from A the run comes to B -/
def Go (p : Program) (e : Env) (below : List Frame) (A B : State) : Prop := ∀ t, Steps p.tables e below B t → Steps p.tables e below A t
def own_b (P : Prop) [Decidable P] : Int32 := if P then 1 else 0
theorem own_b1 {P : Prop} [Decidable P] (h : P) : ¬ own_b P = (0 : Int32) := by simp [own_b, h]
theorem own_b0 {P : Prop} [Decidable P] (h : ¬ P) : own_b P = (0 : Int32) := by simp [own_b, h]
theorem own_bt {P : Prop} [Decidable P] (h : P) : own_b P = (1 : Int32) := by simp [own_b, h]
theorem own_nb {P : Prop} [Decidable P] : nar .boolean (own_b P) = own_b P := by by_cases h : P <;> simp [own_b, h] <;> decide
theorem own_beq {P R : Prop} [Decidable P] [Decidable R] (h : P ↔ R) : own_b P = own_b R := by by_cases q : P <;> simp [own_b, q, ← h]
theorem d1_0 : decode jdk_38_method_2_code 0 = .ok (.aload_n 0, 1) := by decide +kernel
theorem d1_1 : decode jdk_38_method_2_code 1 = .ok (.invokespecial 1, 3) := by decide +kernel
theorem d1_4 : decode jdk_38_method_2_code 4 = .ok (.aload_n 0, 1) := by decide +kernel
theorem d1_5 : decode jdk_38_method_2_code 5 = .ok (.getstatic 39, 3) := by decide +kernel
theorem d1_8 : decode jdk_38_method_2_code 8 = .ok (.putfield 9, 3) := by decide +kernel
theorem d1_11 : decode jdk_38_method_2_code 11 = .ok (.return_, 1) := by decide +kernel
theorem d2_0 : decode jdk_39_method_1_code 0 = .ok (.aload_n 0, 1) := by decide +kernel
theorem d2_1 : decode jdk_39_method_1_code 1 = .ok (.invokespecial 1, 3) := by decide +kernel
theorem d2_4 : decode jdk_39_method_1_code 4 = .ok (.aload_n 0, 1) := by decide +kernel
theorem d2_5 : decode jdk_39_method_1_code 5 = .ok (.iconst 0, 1) := by decide +kernel
theorem d2_6 : decode jdk_39_method_1_code 6 = .ok (.putfield 7, 3) := by decide +kernel
theorem d2_9 : decode jdk_39_method_1_code 9 = .ok (.return_, 1) := by decide +kernel
theorem d3_0 : decode jdk_22_method_1_code 0 = .ok (.aload_n 0, 1) := by decide +kernel
theorem d3_1 : decode jdk_22_method_1_code 1 = .ok (.invokespecial 1, 3) := by decide +kernel
theorem d3_4 : decode jdk_22_method_1_code 4 = .ok (.return_, 1) := by decide +kernel
theorem d5_0 : decode prog_18_method_1_code 0 = .ok (.aload_n 0, 1) := by decide +kernel
theorem d5_1 : decode prog_18_method_1_code 1 = .ok (.invokespecial 1, 3) := by decide +kernel
theorem d5_4 : decode prog_18_method_1_code 4 = .ok (.aload_n 0, 1) := by decide +kernel
theorem d5_5 : decode prog_18_method_1_code 5 = .ok (.aload_n 1, 1) := by decide +kernel
theorem d5_6 : decode prog_18_method_1_code 6 = .ok (.putfield 7, 3) := by decide +kernel
theorem d5_9 : decode prog_18_method_1_code 9 = .ok (.aload_n 0, 1) := by decide +kernel
theorem d5_10 : decode prog_18_method_1_code 10 = .ok (.iload_n 2, 1) := by decide +kernel
theorem d5_11 : decode prog_18_method_1_code 11 = .ok (.putfield 13, 3) := by decide +kernel
theorem d5_14 : decode prog_18_method_1_code 14 = .ok (.aload_n 0, 1) := by decide +kernel
theorem d5_15 : decode prog_18_method_1_code 15 = .ok (.aload_n 3, 1) := by decide +kernel
theorem d5_16 : decode prog_18_method_1_code 16 = .ok (.putfield 17, 3) := by decide +kernel
theorem d5_19 : decode prog_18_method_1_code 19 = .ok (.aload_n 0, 1) := by decide +kernel
theorem d5_20 : decode prog_18_method_1_code 20 = .ok (.aload 4, 2) := by decide +kernel
theorem d5_22 : decode prog_18_method_1_code 22 = .ok (.putfield 21, 3) := by decide +kernel
theorem d5_25 : decode prog_18_method_1_code 25 = .ok (.aload_n 0, 1) := by decide +kernel
theorem d5_26 : decode prog_18_method_1_code 26 = .ok (.aload 5, 2) := by decide +kernel
theorem d5_28 : decode prog_18_method_1_code 28 = .ok (.putfield 25, 3) := by decide +kernel
theorem d5_31 : decode prog_18_method_1_code 31 = .ok (.return_, 1) := by decide +kernel
theorem d6_0 : decode jdk_38_method_25_code 0 = .ok (.aload_n 0, 1) := by decide +kernel
theorem d6_1 : decode jdk_38_method_25_code 1 = .ok (.dup, 1) := by decide +kernel
theorem d6_2 : decode jdk_38_method_25_code 2 = .ok (.getfield 63, 3) := by decide +kernel
theorem d6_5 : decode jdk_38_method_25_code 5 = .ok (.iconst 1, 1) := by decide +kernel
theorem d6_6 : decode jdk_38_method_25_code 6 = .ok (.iadd, 1) := by decide +kernel
theorem d6_7 : decode jdk_38_method_25_code 7 = .ok (.putfield 63, 3) := by decide +kernel
theorem d6_10 : decode jdk_38_method_25_code 10 = .ok (.aload_n 0, 1) := by decide +kernel
theorem d6_11 : decode jdk_38_method_25_code 11 = .ok (.aload_n 1, 1) := by decide +kernel
theorem d6_12 : decode jdk_38_method_25_code 12 = .ok (.aload_n 0, 1) := by decide +kernel
theorem d6_13 : decode jdk_38_method_25_code 13 = .ok (.getfield 9, 3) := by decide +kernel
theorem d6_16 : decode jdk_38_method_25_code 16 = .ok (.aload_n 0, 1) := by decide +kernel
theorem d6_17 : decode jdk_38_method_25_code 17 = .ok (.getfield 48, 3) := by decide +kernel
theorem d6_20 : decode jdk_38_method_25_code 20 = .ok (.invokevirtual 131, 3) := by decide +kernel
theorem d6_23 : decode jdk_38_method_25_code 23 = .ok (.iconst 1, 1) := by decide +kernel
theorem d6_24 : decode jdk_38_method_25_code 24 = .ok (.ireturn, 1) := by decide +kernel
theorem d7_0 : decode jdk_38_method_24_code 0 = .ok (.iload_n 3, 1) := by decide +kernel
theorem d7_1 : decode jdk_38_method_24_code 1 = .ok (.aload_n 2, 1) := by decide +kernel
theorem d7_2 : decode jdk_38_method_24_code 2 = .ok (.arraylength, 1) := by decide +kernel
theorem d7_3 : decode jdk_38_method_24_code 3 = .ok (.if_icmp .ne 8, 3) := by decide +kernel
theorem d7_6 : decode jdk_38_method_24_code 6 = .ok (.aload_n 0, 1) := by decide +kernel
theorem d7_7 : decode jdk_38_method_24_code 7 = .ok (.invokevirtual 129, 3) := by decide +kernel
theorem d7_10 : decode jdk_38_method_24_code 10 = .ok (.astore_n 2, 1) := by decide +kernel
theorem d7_11 : decode jdk_38_method_24_code 11 = .ok (.aload_n 2, 1) := by decide +kernel
theorem d7_12 : decode jdk_38_method_24_code 12 = .ok (.iload_n 3, 1) := by decide +kernel
theorem d7_13 : decode jdk_38_method_24_code 13 = .ok (.aload_n 1, 1) := by decide +kernel
theorem d7_14 : decode jdk_38_method_24_code 14 = .ok (.aastore, 1) := by decide +kernel
theorem d7_15 : decode jdk_38_method_24_code 15 = .ok (.aload_n 0, 1) := by decide +kernel
theorem d7_16 : decode jdk_38_method_24_code 16 = .ok (.iload_n 3, 1) := by decide +kernel
theorem d7_17 : decode jdk_38_method_24_code 17 = .ok (.iconst 1, 1) := by decide +kernel
theorem d7_18 : decode jdk_38_method_24_code 18 = .ok (.iadd, 1) := by decide +kernel
theorem d7_19 : decode jdk_38_method_24_code 19 = .ok (.putfield 48, 3) := by decide +kernel
theorem d7_22 : decode jdk_38_method_24_code 22 = .ok (.return_, 1) := by decide +kernel
theorem d8_0 : decode jdk_38_method_7_code 0 = .ok (.aload_n 0, 1) := by decide +kernel
theorem d8_1 : decode jdk_38_method_7_code 1 = .ok (.aload_n 0, 1) := by decide +kernel
theorem d8_2 : decode jdk_38_method_7_code 2 = .ok (.getfield 48, 3) := by decide +kernel
theorem d8_5 : decode jdk_38_method_7_code 5 = .ok (.iconst 1, 1) := by decide +kernel
theorem d8_6 : decode jdk_38_method_7_code 6 = .ok (.iadd, 1) := by decide +kernel
theorem d8_7 : decode jdk_38_method_7_code 7 = .ok (.invokevirtual 69, 3) := by decide +kernel
theorem d8_10 : decode jdk_38_method_7_code 10 = .ok (.areturn, 1) := by decide +kernel
theorem d9_0 : decode jdk_38_method_6_code 0 = .ok (.aload_n 0, 1) := by decide +kernel
theorem d9_1 : decode jdk_38_method_6_code 1 = .ok (.getfield 9, 3) := by decide +kernel
theorem d9_4 : decode jdk_38_method_6_code 4 = .ok (.arraylength, 1) := by decide +kernel
theorem d9_5 : decode jdk_38_method_6_code 5 = .ok (.istore_n 2, 1) := by decide +kernel
theorem d9_6 : decode jdk_38_method_6_code 6 = .ok (.iload_n 2, 1) := by decide +kernel
theorem d9_7 : decode jdk_38_method_6_code 7 = .ok (.ifCond .gt 13, 3) := by decide +kernel
theorem d9_10 : decode jdk_38_method_6_code 10 = .ok (.aload_n 0, 1) := by decide +kernel
theorem d9_11 : decode jdk_38_method_6_code 11 = .ok (.getfield 9, 3) := by decide +kernel
theorem d9_14 : decode jdk_38_method_6_code 14 = .ok (.getstatic 39, 3) := by decide +kernel
theorem d9_17 : decode jdk_38_method_6_code 17 = .ok (.if_acmp .eq 28, 3) := by decide +kernel
theorem d9_45 : decode jdk_38_method_6_code 45 = .ok (.aload_n 0, 1) := by decide +kernel
theorem d9_46 : decode jdk_38_method_6_code 46 = .ok (.bipush 10, 2) := by decide +kernel
theorem d9_48 : decode jdk_38_method_6_code 48 = .ok (.iload_n 1, 1) := by decide +kernel
theorem d9_49 : decode jdk_38_method_6_code 49 = .ok (.invokestatic 79, 3) := by decide +kernel
theorem d9_52 : decode jdk_38_method_6_code 52 = .ok (.anewarray 7, 3) := by decide +kernel
theorem d9_55 : decode jdk_38_method_6_code 55 = .ok (.dup_x1, 1) := by decide +kernel
theorem d9_56 : decode jdk_38_method_6_code 56 = .ok (.putfield 9, 3) := by decide +kernel
theorem d9_59 : decode jdk_38_method_6_code 59 = .ok (.areturn, 1) := by decide +kernel
theorem d10_0 : decode jdk_29_method_65_code 0 = .ok (.iload_n 0, 1) := by decide +kernel
theorem d10_1 : decode jdk_29_method_65_code 1 = .ok (.iload_n 1, 1) := by decide +kernel
theorem d10_2 : decode jdk_29_method_65_code 2 = .ok (.if_icmp .lt 7, 3) := by decide +kernel
theorem d10_5 : decode jdk_29_method_65_code 5 = .ok (.iload_n 0, 1) := by decide +kernel
theorem d10_6 : decode jdk_29_method_65_code 6 = .ok (.goto 4, 3) := by decide +kernel
theorem d10_10 : decode jdk_29_method_65_code 10 = .ok (.ireturn, 1) := by decide +kernel
theorem d11_0 : decode prog_5_method_1_code 0 = .ok (.aload_n 0, 1) := by decide +kernel
theorem d11_1 : decode prog_5_method_1_code 1 = .ok (.invokespecial 1, 3) := by decide +kernel
theorem d11_4 : decode prog_5_method_1_code 4 = .ok (.aload_n 0, 1) := by decide +kernel
theorem d11_5 : decode prog_5_method_1_code 5 = .ok (.iconst 1, 1) := by decide +kernel
theorem d11_6 : decode prog_5_method_1_code 6 = .ok (.putfield 7, 3) := by decide +kernel
theorem d11_9 : decode prog_5_method_1_code 9 = .ok (.aload_n 0, 1) := by decide +kernel
theorem d11_10 : decode prog_5_method_1_code 10 = .ok (.aload_n 1, 1) := by decide +kernel
theorem d11_11 : decode prog_5_method_1_code 11 = .ok (.invokeinterface 13 1, 5) := by decide +kernel
theorem d11_16 : decode prog_5_method_1_code 16 = .ok (.anewarray 19, 3) := by decide +kernel
theorem d11_19 : decode prog_5_method_1_code 19 = .ok (.putfield 21, 3) := by decide +kernel
theorem d11_22 : decode prog_5_method_1_code 22 = .ok (.aload_n 0, 1) := by decide +kernel
theorem d11_23 : decode prog_5_method_1_code 23 = .ok (.aload_n 1, 1) := by decide +kernel
theorem d11_24 : decode prog_5_method_1_code 24 = .ok (.invokeinterface 13 1, 5) := by decide +kernel
theorem d11_29 : decode prog_5_method_1_code 29 = .ok (.anewarray 19, 3) := by decide +kernel
theorem d11_32 : decode prog_5_method_1_code 32 = .ok (.putfield 25, 3) := by decide +kernel
theorem d11_35 : decode prog_5_method_1_code 35 = .ok (.aload_n 0, 1) := by decide +kernel
theorem d11_36 : decode prog_5_method_1_code 36 = .ok (.aload_n 1, 1) := by decide +kernel
theorem d11_37 : decode prog_5_method_1_code 37 = .ok (.invokeinterface 13 1, 5) := by decide +kernel
theorem d11_42 : decode prog_5_method_1_code 42 = .ok (.newarray .int, 2) := by decide +kernel
theorem d11_44 : decode prog_5_method_1_code 44 = .ok (.putfield 28, 3) := by decide +kernel
theorem d11_47 : decode prog_5_method_1_code 47 = .ok (.aload_n 0, 1) := by decide +kernel
theorem d11_48 : decode prog_5_method_1_code 48 = .ok (.aload_n 1, 1) := by decide +kernel
theorem d11_49 : decode prog_5_method_1_code 49 = .ok (.invokeinterface 13 1, 5) := by decide +kernel
theorem d11_54 : decode prog_5_method_1_code 54 = .ok (.anewarray 19, 3) := by decide +kernel
theorem d11_57 : decode prog_5_method_1_code 57 = .ok (.putfield 31, 3) := by decide +kernel
theorem d11_60 : decode prog_5_method_1_code 60 = .ok (.iconst 0, 1) := by decide +kernel
theorem d11_61 : decode prog_5_method_1_code 61 = .ok (.istore_n 2, 1) := by decide +kernel
theorem d11_62 : decode prog_5_method_1_code 62 = .ok (.iload_n 2, 1) := by decide +kernel
theorem d11_63 : decode prog_5_method_1_code 63 = .ok (.aload_n 0, 1) := by decide +kernel
theorem d11_64 : decode prog_5_method_1_code 64 = .ok (.getfield 21, 3) := by decide +kernel
theorem d11_67 : decode prog_5_method_1_code 67 = .ok (.arraylength, 1) := by decide +kernel
theorem d11_68 : decode prog_5_method_1_code 68 = .ok (.if_icmp .ge 94, 3) := by decide +kernel
theorem d11_71 : decode prog_5_method_1_code 71 = .ok (.aload_n 1, 1) := by decide +kernel
theorem d11_72 : decode prog_5_method_1_code 72 = .ok (.iload_n 2, 1) := by decide +kernel
theorem d11_73 : decode prog_5_method_1_code 73 = .ok (.invokeinterface 34 2, 5) := by decide +kernel
theorem d11_78 : decode prog_5_method_1_code 78 = .ok (.checkcast 38, 3) := by decide +kernel
theorem d11_81 : decode prog_5_method_1_code 81 = .ok (.invokevirtual 40, 3) := by decide +kernel
theorem d11_84 : decode prog_5_method_1_code 84 = .ok (.istore_n 3, 1) := by decide +kernel
theorem d11_85 : decode prog_5_method_1_code 85 = .ok (.aload_n 0, 1) := by decide +kernel
theorem d11_86 : decode prog_5_method_1_code 86 = .ok (.getfield 21, 3) := by decide +kernel
theorem d11_89 : decode prog_5_method_1_code 89 = .ok (.iload_n 2, 1) := by decide +kernel
theorem d11_90 : decode prog_5_method_1_code 90 = .ok (.iload_n 3, 1) := by decide +kernel
theorem d11_91 : decode prog_5_method_1_code 91 = .ok (.newarray .int, 2) := by decide +kernel
theorem d11_93 : decode prog_5_method_1_code 93 = .ok (.aastore, 1) := by decide +kernel
theorem d11_94 : decode prog_5_method_1_code 94 = .ok (.aload_n 0, 1) := by decide +kernel
theorem d11_95 : decode prog_5_method_1_code 95 = .ok (.getfield 25, 3) := by decide +kernel
theorem d11_98 : decode prog_5_method_1_code 98 = .ok (.iload_n 2, 1) := by decide +kernel
theorem d11_99 : decode prog_5_method_1_code 99 = .ok (.iload_n 3, 1) := by decide +kernel
theorem d11_100 : decode prog_5_method_1_code 100 = .ok (.newarray .int, 2) := by decide +kernel
theorem d11_102 : decode prog_5_method_1_code 102 = .ok (.aastore, 1) := by decide +kernel
theorem d11_103 : decode prog_5_method_1_code 103 = .ok (.iconst 0, 1) := by decide +kernel
theorem d11_104 : decode prog_5_method_1_code 104 = .ok (.istore 4, 2) := by decide +kernel
theorem d11_106 : decode prog_5_method_1_code 106 = .ok (.iload 4, 2) := by decide +kernel
theorem d11_108 : decode prog_5_method_1_code 108 = .ok (.iload_n 3, 1) := by decide +kernel
theorem d11_109 : decode prog_5_method_1_code 109 = .ok (.if_icmp .ge 31, 3) := by decide +kernel
theorem d11_112 : decode prog_5_method_1_code 112 = .ok (.aload_n 0, 1) := by decide +kernel
theorem d11_113 : decode prog_5_method_1_code 113 = .ok (.getfield 21, 3) := by decide +kernel
theorem d11_116 : decode prog_5_method_1_code 116 = .ok (.iload_n 2, 1) := by decide +kernel
theorem d11_117 : decode prog_5_method_1_code 117 = .ok (.aaload, 1) := by decide +kernel
theorem d11_118 : decode prog_5_method_1_code 118 = .ok (.iload 4, 2) := by decide +kernel
theorem d11_120 : decode prog_5_method_1_code 120 = .ok (.iload 4, 2) := by decide +kernel
theorem d11_122 : decode prog_5_method_1_code 122 = .ok (.iastore, 1) := by decide +kernel
theorem d11_123 : decode prog_5_method_1_code 123 = .ok (.aload_n 0, 1) := by decide +kernel
theorem d11_124 : decode prog_5_method_1_code 124 = .ok (.getfield 25, 3) := by decide +kernel
theorem d11_127 : decode prog_5_method_1_code 127 = .ok (.iload_n 2, 1) := by decide +kernel
theorem d11_128 : decode prog_5_method_1_code 128 = .ok (.aaload, 1) := by decide +kernel
theorem d11_129 : decode prog_5_method_1_code 129 = .ok (.iload 4, 2) := by decide +kernel
theorem d11_131 : decode prog_5_method_1_code 131 = .ok (.iload 4, 2) := by decide +kernel
theorem d11_133 : decode prog_5_method_1_code 133 = .ok (.iastore, 1) := by decide +kernel
theorem d11_134 : decode prog_5_method_1_code 134 = .ok (.iinc 4 1, 3) := by decide +kernel
theorem d11_137 : decode prog_5_method_1_code 137 = .ok (.goto (-31), 3) := by decide +kernel
theorem d11_140 : decode prog_5_method_1_code 140 = .ok (.aload_n 0, 1) := by decide +kernel
theorem d11_141 : decode prog_5_method_1_code 141 = .ok (.getfield 28, 3) := by decide +kernel
theorem d11_144 : decode prog_5_method_1_code 144 = .ok (.iload_n 2, 1) := by decide +kernel
theorem d11_145 : decode prog_5_method_1_code 145 = .ok (.iload_n 3, 1) := by decide +kernel
theorem d11_146 : decode prog_5_method_1_code 146 = .ok (.iastore, 1) := by decide +kernel
theorem d11_147 : decode prog_5_method_1_code 147 = .ok (.aload_n 0, 1) := by decide +kernel
theorem d11_148 : decode prog_5_method_1_code 148 = .ok (.getfield 31, 3) := by decide +kernel
theorem d11_151 : decode prog_5_method_1_code 151 = .ok (.iload_n 2, 1) := by decide +kernel
theorem d11_152 : decode prog_5_method_1_code 152 = .ok (.iload_n 3, 1) := by decide +kernel
theorem d11_153 : decode prog_5_method_1_code 153 = .ok (.newarray .int, 2) := by decide +kernel
theorem d11_155 : decode prog_5_method_1_code 155 = .ok (.aastore, 1) := by decide +kernel
theorem d11_156 : decode prog_5_method_1_code 156 = .ok (.iinc 2 1, 3) := by decide +kernel
theorem d11_159 : decode prog_5_method_1_code 159 = .ok (.goto (-97), 3) := by decide +kernel
theorem d11_162 : decode prog_5_method_1_code 162 = .ok (.return_, 1) := by decide +kernel
theorem d12_0 : decode jdk_38_method_8_code 0 = .ok (.aload_n 0, 1) := by decide +kernel
theorem d12_1 : decode jdk_38_method_8_code 1 = .ok (.getfield 48, 3) := by decide +kernel
theorem d12_4 : decode jdk_38_method_8_code 4 = .ok (.ireturn, 1) := by decide +kernel
theorem d13_0 : decode jdk_38_method_20_code 0 = .ok (.iload_n 1, 1) := by decide +kernel
theorem d13_1 : decode jdk_38_method_20_code 1 = .ok (.aload_n 0, 1) := by decide +kernel
theorem d13_2 : decode jdk_38_method_20_code 2 = .ok (.getfield 48, 3) := by decide +kernel
theorem d13_5 : decode jdk_38_method_20_code 5 = .ok (.invokestatic 118, 3) := by decide +kernel
theorem d13_8 : decode jdk_38_method_20_code 8 = .ok (.pop, 1) := by decide +kernel
theorem d13_9 : decode jdk_38_method_20_code 9 = .ok (.aload_n 0, 1) := by decide +kernel
theorem d13_10 : decode jdk_38_method_20_code 10 = .ok (.iload_n 1, 1) := by decide +kernel
theorem d13_11 : decode jdk_38_method_20_code 11 = .ok (.invokevirtual 123, 3) := by decide +kernel
theorem d13_14 : decode jdk_38_method_20_code 14 = .ok (.areturn, 1) := by decide +kernel
theorem d14_0 : decode jdk_31_method_17_code 0 = .ok (.iload_n 0, 1) := by decide +kernel
theorem d14_1 : decode jdk_31_method_17_code 1 = .ok (.iload_n 1, 1) := by decide +kernel
theorem d14_2 : decode jdk_31_method_17_code 2 = .ok (.aconst_null, 1) := by decide +kernel
theorem d14_3 : decode jdk_31_method_17_code 3 = .ok (.invokestatic 105, 3) := by decide +kernel
theorem d14_6 : decode jdk_31_method_17_code 6 = .ok (.ireturn, 1) := by decide +kernel
theorem d15_0 : decode jdk_41_method_11_code 0 = .ok (.iload_n 0, 1) := by decide +kernel
theorem d15_1 : decode jdk_41_method_11_code 1 = .ok (.ifCond .lt 8, 3) := by decide +kernel
theorem d15_4 : decode jdk_41_method_11_code 4 = .ok (.iload_n 0, 1) := by decide +kernel
theorem d15_5 : decode jdk_41_method_11_code 5 = .ok (.iload_n 1, 1) := by decide +kernel
theorem d15_6 : decode jdk_41_method_11_code 6 = .ok (.if_icmp .lt 10, 3) := by decide +kernel
theorem d15_16 : decode jdk_41_method_11_code 16 = .ok (.iload_n 0, 1) := by decide +kernel
theorem d15_17 : decode jdk_41_method_11_code 17 = .ok (.ireturn, 1) := by decide +kernel
theorem d16_0 : decode jdk_38_method_18_code 0 = .ok (.aload_n 0, 1) := by decide +kernel
theorem d16_1 : decode jdk_38_method_18_code 1 = .ok (.getfield 9, 3) := by decide +kernel
theorem d16_4 : decode jdk_38_method_18_code 4 = .ok (.iload_n 1, 1) := by decide +kernel
theorem d16_5 : decode jdk_38_method_18_code 5 = .ok (.aaload, 1) := by decide +kernel
theorem d16_6 : decode jdk_38_method_18_code 6 = .ok (.areturn, 1) := by decide +kernel
theorem d17_0 : decode prog_18_method_8_code 0 = .ok (.aload_n 0, 1) := by decide +kernel
theorem d17_1 : decode prog_18_method_8_code 1 = .ok (.getfield 21, 3) := by decide +kernel
theorem d17_4 : decode prog_18_method_8_code 4 = .ok (.arraylength, 1) := by decide +kernel
theorem d17_5 : decode prog_18_method_8_code 5 = .ok (.ireturn, 1) := by decide +kernel
theorem d18_0 : decode prog_5_method_12_code 0 = .ok (.aload_n 0, 1) := by decide +kernel
theorem d18_1 : decode prog_5_method_12_code 1 = .ok (.getfield 31, 3) := by decide +kernel
theorem d18_4 : decode prog_5_method_12_code 4 = .ok (.iload_n 1, 1) := by decide +kernel
theorem d18_5 : decode prog_5_method_12_code 5 = .ok (.aaload, 1) := by decide +kernel
theorem d18_6 : decode prog_5_method_12_code 6 = .ok (.iload_n 2, 1) := by decide +kernel
theorem d18_7 : decode prog_5_method_12_code 7 = .ok (.iaload, 1) := by decide +kernel
theorem d18_8 : decode prog_5_method_12_code 8 = .ok (.aload_n 0, 1) := by decide +kernel
theorem d18_9 : decode prog_5_method_12_code 9 = .ok (.getfield 7, 3) := by decide +kernel
theorem d18_12 : decode prog_5_method_12_code 12 = .ok (.if_icmp .eq 7, 3) := by decide +kernel
theorem d18_15 : decode prog_5_method_12_code 15 = .ok (.iconst 1, 1) := by decide +kernel
theorem d18_16 : decode prog_5_method_12_code 16 = .ok (.goto 4, 3) := by decide +kernel
theorem d18_19 : decode prog_5_method_12_code 19 = .ok (.iconst 0, 1) := by decide +kernel
theorem d18_20 : decode prog_5_method_12_code 20 = .ok (.istore_n 3, 1) := by decide +kernel
theorem d18_21 : decode prog_5_method_12_code 21 = .ok (.aload_n 0, 1) := by decide +kernel
theorem d18_22 : decode prog_5_method_12_code 22 = .ok (.getfield 31, 3) := by decide +kernel
theorem d18_25 : decode prog_5_method_12_code 25 = .ok (.iload_n 1, 1) := by decide +kernel
theorem d18_26 : decode prog_5_method_12_code 26 = .ok (.aaload, 1) := by decide +kernel
theorem d18_27 : decode prog_5_method_12_code 27 = .ok (.iload_n 2, 1) := by decide +kernel
theorem d18_28 : decode prog_5_method_12_code 28 = .ok (.aload_n 0, 1) := by decide +kernel
theorem d18_29 : decode prog_5_method_12_code 29 = .ok (.getfield 7, 3) := by decide +kernel
theorem d18_32 : decode prog_5_method_12_code 32 = .ok (.iastore, 1) := by decide +kernel
theorem d18_33 : decode prog_5_method_12_code 33 = .ok (.iload_n 3, 1) := by decide +kernel
theorem d18_34 : decode prog_5_method_12_code 34 = .ok (.ireturn, 1) := by decide +kernel
theorem d19_0 : decode prog_5_method_13_code 0 = .ok (.aload_n 0, 1) := by decide +kernel
theorem d19_1 : decode prog_5_method_13_code 1 = .ok (.getfield 31, 3) := by decide +kernel
theorem d19_4 : decode prog_5_method_13_code 4 = .ok (.iload_n 1, 1) := by decide +kernel
theorem d19_5 : decode prog_5_method_13_code 5 = .ok (.aaload, 1) := by decide +kernel
theorem d19_6 : decode prog_5_method_13_code 6 = .ok (.iload_n 2, 1) := by decide +kernel
theorem d19_7 : decode prog_5_method_13_code 7 = .ok (.iaload, 1) := by decide +kernel
theorem d19_8 : decode prog_5_method_13_code 8 = .ok (.aload_n 0, 1) := by decide +kernel
theorem d19_9 : decode prog_5_method_13_code 9 = .ok (.getfield 7, 3) := by decide +kernel
theorem d19_12 : decode prog_5_method_13_code 12 = .ok (.if_icmp .ne 7, 3) := by decide +kernel
theorem d19_15 : decode prog_5_method_13_code 15 = .ok (.iconst 1, 1) := by decide +kernel
theorem d19_16 : decode prog_5_method_13_code 16 = .ok (.goto 4, 3) := by decide +kernel
theorem d19_19 : decode prog_5_method_13_code 19 = .ok (.iconst 0, 1) := by decide +kernel
theorem d19_20 : decode prog_5_method_13_code 20 = .ok (.ireturn, 1) := by decide +kernel
theorem d20_0 : decode prog_5_method_11_code 0 = .ok (.aload_n 0, 1) := by decide +kernel
theorem d20_1 : decode prog_5_method_11_code 1 = .ok (.getfield 7, 3) := by decide +kernel
theorem d20_4 : decode prog_5_method_11_code 4 = .ok (.ldc 67, 2) := by decide +kernel
theorem d20_6 : decode prog_5_method_11_code 6 = .ok (.if_icmp .ne 40, 3) := by decide +kernel
theorem d20_46 : decode prog_5_method_11_code 46 = .ok (.aload_n 0, 1) := by decide +kernel
theorem d20_47 : decode prog_5_method_11_code 47 = .ok (.dup, 1) := by decide +kernel
theorem d20_48 : decode prog_5_method_11_code 48 = .ok (.getfield 7, 3) := by decide +kernel
theorem d20_51 : decode prog_5_method_11_code 51 = .ok (.iconst 1, 1) := by decide +kernel
theorem d20_52 : decode prog_5_method_11_code 52 = .ok (.iadd, 1) := by decide +kernel
theorem d20_53 : decode prog_5_method_11_code 53 = .ok (.putfield 7, 3) := by decide +kernel
theorem d20_56 : decode prog_5_method_11_code 56 = .ok (.return_, 1) := by decide +kernel
theorem pn_0 : plainName "java/util/AbstractCollection" = true := by first | (simp [plainName, overriddenIn]; done) | decide +kernel
theorem pn_1 : plainName "java/util/AbstractList" = true := by first | (simp [plainName, overriddenIn]; done) | decide +kernel
theorem pn_2 : plainName "java/util/ArrayList" = true := by first | (simp [plainName, overriddenIn]; done) | decide +kernel
theorem pn_3 : plainName "com/example/ludarc/ludarc/engine/Variable" = true := by first | (simp [plainName, overriddenIn]; done) | decide +kernel
theorem pn_4 : plainName "jdk/internal/util/Preconditions" = true := by first | (simp [plainName, overriddenIn]; done) | decide +kernel
theorem pn_5 : plainName "java/util/Objects" = true := by first | (simp [plainName, overriddenIn]; done) | decide +kernel
theorem pn_6 : plainName "com/example/ludarc/ludarc/engine/Domains" = true := by first | (simp [plainName, overriddenIn]; done) | decide +kernel
theorem pn_7 : plainName "com/example/ludarc/ludarc/engine/DomainsMarkPinLaw" = true := by first | (simp [plainName, overriddenIn]; done) | decide +kernel
theorem pd_0 : parseMethodDescriptor "()V" = some ⟨[], none⟩ := by decide +kernel
theorem pd_1 : parseMethodDescriptor "(II)I" = some ⟨[.int, .int], some .int⟩ := by decide +kernel
theorem pd_2 : parseMethodDescriptor "(I)[Ljava/lang/Object;" = some ⟨[.int], some (.array (.object "java/lang/Object"))⟩ := by decide +kernel
theorem pd_3 : parseMethodDescriptor "()[Ljava/lang/Object;" = some ⟨[], some (.array (.object "java/lang/Object"))⟩ := by decide +kernel
theorem pd_4 : parseMethodDescriptor "(Ljava/lang/Object;[Ljava/lang/Object;I)V" = some ⟨[(.object "java/lang/Object"), (.array (.object "java/lang/Object")), .int], none⟩ := by decide +kernel
theorem pd_5 : parseMethodDescriptor "(IILjava/util/function/BiFunction;)I" = some ⟨[.int, .int, (.object "java/util/function/BiFunction")], some .int⟩ := by decide +kernel
theorem pd_6 : parseMethodDescriptor "(I)Ljava/lang/Object;" = some ⟨[.int], some (.object "java/lang/Object")⟩ := by decide +kernel
theorem pd_7 : parseMethodDescriptor "()I" = some ⟨[], some .int⟩ := by decide +kernel
theorem pd_8 : parseMethodDescriptor "(Lcom/example/ludarc/ludarc/engine/Network$Builder;ILjava/lang/String;[I[D)V" = some ⟨[(.object "com/example/ludarc/ludarc/engine/Network$Builder"), .int, (.object "java/lang/String"), (.array .int), (.array .double)], none⟩ := by decide +kernel
theorem pd_9 : parseMethodDescriptor "(Ljava/lang/Object;)Z" = some ⟨[(.object "java/lang/Object")], some .boolean⟩ := by decide +kernel
theorem pd_10 : parseMethodDescriptor "(Ljava/util/List;)V" = some ⟨[(.object "java/util/List")], none⟩ := by decide +kernel
theorem pd_11 : parseMethodDescriptor "(II)Z" = some ⟨[.int, .int], some .boolean⟩ := by decide +kernel
theorem ef_rm3 (m : MethodId) (x0 : Addr) : entryFrame m #[(.ref x0)] 1 = mkF m 0 #[.val (.ref x0)] [] := by first | (simp [entryFrame, mkF, argsToLocals, Value.category]; done) | rfl
theorem ef_rm2 (m : MethodId) (x0 : Addr) : entryFrame m #[(.ref x0)] 1 = mkF m 0 #[.val (.ref x0)] [] := by first | (simp [entryFrame, mkF, argsToLocals, Value.category]; done) | rfl
theorem ef_rm1 (m : MethodId) (x0 : Addr) : entryFrame m #[(.ref x0)] 1 = mkF m 0 #[.val (.ref x0)] [] := by first | (simp [entryFrame, mkF, argsToLocals, Value.category]; done) | rfl
theorem ef_rm5 (m : MethodId) (x0 : Addr) (x2 : Int32) (x3 : Addr) (x4 : Addr) : entryFrame m #[(.ref x0), .null, (.int x2), (.ref x3), (.ref x4), .null] 6 = mkF m 0 #[.val (.ref x0), .val .null, .val (.int x2), .val (.ref x3), .val (.ref x4), .val .null] [] := by first | (simp [entryFrame, mkF, argsToLocals, Value.category]; done) | rfl
theorem ef_rm17 (m : MethodId) (x0 : Addr) : entryFrame m #[(.ref x0)] 1 = mkF m 0 #[.val (.ref x0)] [] := by first | (simp [entryFrame, mkF, argsToLocals, Value.category]; done) | rfl
theorem ef_rm10 (m : MethodId) (x0 : Int32) (x1 : Int32) : entryFrame m #[(.int x0), (.int x1)] 2 = mkF m 0 #[.val (.int x0), .val (.int x1)] [] := by first | (simp [entryFrame, mkF, argsToLocals, Value.category]; done) | rfl
theorem ef_rm9 (m : MethodId) (x0 : Addr) (x1 : Int32) : entryFrame m #[(.ref x0), (.int x1)] 4 = mkF m 0 #[.val (.ref x0), .val (.int x1), .unset, .unset] [] := by first | (simp [entryFrame, mkF, argsToLocals, Value.category]; done) | rfl
theorem ef_rm8 (m : MethodId) (x0 : Addr) : entryFrame m #[(.ref x0)] 1 = mkF m 0 #[.val (.ref x0)] [] := by first | (simp [entryFrame, mkF, argsToLocals, Value.category]; done) | rfl
theorem ef_rmA3a (m : MethodId) (x0 : Addr) (x1 : Addr) (x2 : Addr) (x3 : Int32) : entryFrame m #[(.ref x0), (.ref x1), (.ref x2), (.int x3)] 4 = mkF m 0 #[.val (.ref x0), .val (.ref x1), .val (.ref x2), .val (.int x3)] [] := by first | (simp [entryFrame, mkF, argsToLocals, Value.category]; done) | rfl
theorem ef_rmA3b (m : MethodId) (x0 : Addr) (x1 : Addr) (x2 : Addr) (x3 : Int32) : entryFrame m #[(.ref x0), (.ref x1), (.ref x2), (.int x3)] 4 = mkF m 0 #[.val (.ref x0), .val (.ref x1), .val (.ref x2), .val (.int x3)] [] := by first | (simp [entryFrame, mkF, argsToLocals, Value.category]; done) | rfl
theorem ef_rmA1a (m : MethodId) (x0 : Addr) (x1 : Addr) : entryFrame m #[(.ref x0), (.ref x1)] 2 = mkF m 0 #[.val (.ref x0), .val (.ref x1)] [] := by first | (simp [entryFrame, mkF, argsToLocals, Value.category]; done) | rfl
theorem ef_rmA1b (m : MethodId) (x0 : Addr) (x1 : Addr) : entryFrame m #[(.ref x0), (.ref x1)] 2 = mkF m 0 #[.val (.ref x0), .val (.ref x1)] [] := by first | (simp [entryFrame, mkF, argsToLocals, Value.category]; done) | rfl
theorem ef_rm12 (m : MethodId) (x0 : Addr) : entryFrame m #[(.ref x0)] 1 = mkF m 0 #[.val (.ref x0)] [] := by first | (simp [entryFrame, mkF, argsToLocals, Value.category]; done) | rfl
theorem ef_rm15 (m : MethodId) (x0 : Int32) (x1 : Int32) : entryFrame m #[(.int x0), (.int x1), .null] 3 = mkF m 0 #[.val (.int x0), .val (.int x1), .val .null] [] := by first | (simp [entryFrame, mkF, argsToLocals, Value.category]; done) | rfl
theorem ef_rm14 (m : MethodId) (x0 : Int32) (x1 : Int32) : entryFrame m #[(.int x0), (.int x1)] 2 = mkF m 0 #[.val (.int x0), .val (.int x1)] [] := by first | (simp [entryFrame, mkF, argsToLocals, Value.category]; done) | rfl
theorem ef_rmED0 (m : MethodId) (x0 : Addr) (x1 : Int32) : entryFrame m #[(.ref x0), (.int x1)] 2 = mkF m 0 #[.val (.ref x0), .val (.int x1)] [] := by first | (simp [entryFrame, mkF, argsToLocals, Value.category]; done) | rfl
theorem ef_rmGT0 (m : MethodId) (x0 : Addr) (x1 : Int32) : entryFrame m #[(.ref x0), (.int x1)] 2 = mkF m 0 #[.val (.ref x0), .val (.int x1)] [] := by first | (simp [entryFrame, mkF, argsToLocals, Value.category]; done) | rfl
theorem ef_rmED1 (m : MethodId) (x0 : Addr) (x1 : Int32) : entryFrame m #[(.ref x0), (.int x1)] 2 = mkF m 0 #[.val (.ref x0), .val (.int x1)] [] := by first | (simp [entryFrame, mkF, argsToLocals, Value.category]; done) | rfl
theorem ef_rmGT1 (m : MethodId) (x0 : Addr) (x1 : Int32) : entryFrame m #[(.ref x0), (.int x1)] 2 = mkF m 0 #[.val (.ref x0), .val (.int x1)] [] := by first | (simp [entryFrame, mkF, argsToLocals, Value.category]; done) | rfl
theorem ef_rm11 (m : MethodId) (x0 : Addr) (x1 : Addr) : entryFrame m #[(.ref x0), (.ref x1)] 5 = mkF m 0 #[.val (.ref x0), .val (.ref x1), .unset, .unset, .unset] [] := by first | (simp [entryFrame, mkF, argsToLocals, Value.category]; done) | rfl
theorem ef_rmM0 (m : MethodId) (x0 : Addr) (x1 : Int32) (x2 : Int32) : entryFrame m #[(.ref x0), (.int x1), (.int x2)] 4 = mkF m 0 #[.val (.ref x0), .val (.int x1), .val (.int x2), .unset] [] := by first | (simp [entryFrame, mkF, argsToLocals, Value.category]; done) | rfl
theorem ef_rmI0 (m : MethodId) (x0 : Addr) (x1 : Int32) (x2 : Int32) : entryFrame m #[(.ref x0), (.int x1), (.int x2)] 3 = mkF m 0 #[.val (.ref x0), .val (.int x1), .val (.int x2)] [] := by first | (simp [entryFrame, mkF, argsToLocals, Value.category]; done) | rfl
theorem ef_rmM1 (m : MethodId) (x0 : Addr) (x1 : Int32) (x2 : Int32) : entryFrame m #[(.ref x0), (.int x1), (.int x2)] 4 = mkF m 0 #[.val (.ref x0), .val (.int x1), .val (.int x2), .unset] [] := by first | (simp [entryFrame, mkF, argsToLocals, Value.category]; done) | rfl
theorem ef_rmI1 (m : MethodId) (x0 : Addr) (x1 : Int32) (x2 : Int32) : entryFrame m #[(.ref x0), (.int x1), (.int x2)] 3 = mkF m 0 #[.val (.ref x0), .val (.int x1), .val (.int x2)] [] := by first | (simp [entryFrame, mkF, argsToLocals, Value.category]; done) | rfl
theorem ef_rm20 (m : MethodId) (x0 : Addr) : entryFrame m #[(.ref x0)] 5 = mkF m 0 #[.val (.ref x0), .unset, .unset, .unset, .unset] [] := by first | (simp [entryFrame, mkF, argsToLocals, Value.category]; done) | rfl
theorem ef_rm0 (m : MethodId) (x0 : Int32) (x1 : Int32) (x2 : Int32) (x3 : Int32) : entryFrame m #[(.int x0), (.int x1), (.int x2), (.int x3)] maxLocals = mkF m 0 #[.val (.int x0), .val (.int x1), .val (.int x2), .val (.int x3), .unset, .unset, .unset, .unset, .unset, .unset, .unset, .unset, .unset, .unset, .unset, .unset, .unset, .unset, .unset, .unset, .unset, .unset] [] := by first | (simp [entryFrame, mkF, argsToLocals, Value.category, maxLocals]; done) | rfl
def Qn (h0 : Heap) (n0 : Nat) (v : Option Value) (h : Heap) (L : List Loc) : Prop := v = none ∧ Fr n0 L ∧ h = h0
def Qr (r : Value) (h0 : Heap) (n0 : Nat) (v : Option Value) (h : Heap) (L : List Loc) : Prop := v = some r ∧ Fr n0 L ∧ h = h0
theorem own_eqI {args : Array Value} {s : State} {t : Term} {k : Int32} (h : (Jvm.Cond.eq t (.int k)).value args s none s [] = some true) : t.eval args s none [] s = some (.int k) := by
  simp only [Cond.value, Term.eval] at h
  cases ht : t.eval args s none [] s with
  | none => simp [ht] at h
  | some x => cases x <;> simp [ht] at h ⊢; exact h
theorem own_eqR {args : Array Value} {s : State} {t u : Term} {b : Addr} (h : (Jvm.Cond.eq t u).value args s none s [] = some true) (hu : u.eval args s none [] s = some (.ref b)) : t.eval args s none [] s = some (.ref b) := by
  simp only [Cond.value, hu] at h
  cases ht : t.eval args s none [] s with
  | none => simp [ht] at h
  | some x => cases x <;> simp [ht] at h ⊢; exact h
theorem own_arv {args : Array Value} {s : State} {t : Term} {a : Addr} {cl : Cell} {ty : FieldType} {z : Int32} (A : Arr s s.heap a cl ty) (ht : t.eval args s none [] s = some (.ref a)) (hl : (Term.length t).eval args s none [] s = some (.int z)) : cl.slots.size < 2 ^ 31 ∧ cl.slots.size.toInt32 = z := by
  obtain ⟨b, cell, e1, e2, h31, e3⟩ := Jvm.Lib.length_spec hl
  cases ht.symm.trans e1
  have e4 := A.fin (Vm.Alike.refl _)
  cases e4.symm.trans e2
  exact ⟨h31, (Value.int.inj e3).symm⟩
/-- an array of n places; place j holds g j -/
def Af (Z : State) (h : Heap) (a : Addr) (k : ClassId) (ty : FieldType) (n : Int32) (g : Nat → Value) : Prop := ∃ c : Cell, Arr Z h a c ty ∧ c.cls = k ∧ c.slots.size = n.toNatClampNeg ∧ ¬ n < 0 ∧ ∀ j, j < n.toNatClampNeg → c.slots[j]? = some (g j)
theorem Af.lt {Z : State} {h : Heap} {a : Addr} {k : ClassId} {ty : FieldType} {n : Int32} {g : Nat → Value} (F : Af Z h a k ty n g) : a < h.size := by obtain ⟨c, A, -⟩ := F; exact A.lt
theorem Af.ext {Z : State} {h h' : Heap} {a : Addr} {k : ClassId} {ty : FieldType} {n : Int32} {g : Nat → Value} (F : Af Z h a k ty n g) (E : Ext h h') : Af Z h' a k ty n g := by obtain ⟨c, A, r⟩ := F; exact ⟨c, A.ext E, r⟩
theorem Af.other {Z : State} {h h' : Heap} {a b : Addr} {sl : Nat} {v : Value} {k : ClassId} {ty : FieldType} {n : Int32} {g : Nat → Value} (F : Af Z h b k ty n g) (W : Wr h h' a sl v) (q : b ≠ a) : Af Z h' b k ty n g := by obtain ⟨c, A, r⟩ := F; exact ⟨c, A.other W q, r⟩
theorem Af.keep {Z : State} {h h' : Heap} {a : Addr} {ws : List Addr} {k : ClassId} {ty : FieldType} {n : Int32} {g : Nat → Value} (F : Af Z h a k ty n g) (K : Keep h h' ws) (q : a ∉ ws) : Af Z h' a k ty n g := by obtain ⟨c, A, r⟩ := F; exact ⟨c, ⟨K.2.1 a c A.1 q, A.2⟩, r⟩
theorem Af.of {Z : State} {h : Heap} {a : Addr} {k : ClassId} {ty : FieldType} {n : Int32} {vs : List Value} {d : Value} (F : Arv Z h a k ty n vs d) : Af Z h a k ty n (fun j => vs.getD j d) := by
  obtain ⟨c, A, q, S, M, H, -⟩ := F
  exact ⟨c, A, q, S, M, fun j hj => H j (by rw [S]; exact hj)⟩
theorem Af.set {Z : State} {h h' : Heap} {a : Addr} {c : Cell} {k : ClassId} {ty : FieldType} {n j : Int32} {v : Value} {g : Nat → Value} (A : Arr Z h a c ty) (q : c.cls = k) (S : c.slots.size = n.toNatClampNeg) (M : ¬ n < 0) (H : ∀ j, j < n.toNatClampNeg → c.slots[j]? = some (g j)) (W : Wr h h' a j.toNatClampNeg v) (hj : ¬ (j < 0 ∨ c.slots.size ≤ j.toNatClampNeg)) : Af Z h' a k ty n (fun i => if i = j.toNatClampNeg then v else g i) := by
  refine ⟨_, A.same W, q, (sz_set _ _ _).trans S, M, fun i hi => ?_⟩
  by_cases e : i = j.toNatClampNeg
  · subst e
    have hl : j.toNatClampNeg < c.slots.size := Nat.lt_of_not_le fun y => hj (Or.inr y)
    simp [Cell.setSlot, hl]
  · simp only [e, if_false]
    rw [← H i hi]
    simp [Cell.setSlot, Array.getElem?_setIfInBounds, Ne.symm e]
theorem Af.fn {Z : State} {h : Heap} {a : Addr} {k : ClassId} {ty : FieldType} {n : Int32} {g g' : Nat → Value} (F : Af Z h a k ty n g) (e : ∀ j, j < n.toNatClampNeg → g j = g' j) : Af Z h a k ty n g' := by
  obtain ⟨c, A, q, S, M, H⟩ := F
  exact ⟨c, A, q, S, M, fun j hj => (H j hj).trans (congrArg some (e j hj))⟩
set_option maxRecDepth 65536 in
set_option maxHeartbeats 40000000 in
theorem rm3 (l : Launch) (Z : State) (a0 : Array Value) (hw : ∀ d ∈ tables_1, d.before a0 Z = true) (ws : List Jvm.Cond) (a : Addr) (h0 : Heap) (n0 : Nat) (Z0 : n0 ≤ h0.size) :
    MetFree l (⟨"java/util/AbstractCollection", "<init>", "()V"⟩ : MethodName) (head1 (Jvm.Cond.code (⟨"java/util/AbstractCollection", "<init>", "()V"⟩ : MethodName) jdk_22_method_1_code 1 none :: ws) ({ frames := 1, cells := 0, slots := 0, locals := 12 } : Room)) (fun aa UU => aa = #[(.ref a)] ∧ Z.Warmed39 UU.vm ∧ UU.heap = h0) (fun _ _ _ _ _ => True) (fun _ UU oo U' => ∃ v L, oo = .returned v ∧ Qn h0 n0 v U'.heap L ∧ FrameEnd UU oo U' L ({ frames := 1, cells := 0, slots := 0, locals := 12 } : Room).cells ({ frames := 1, cells := 0, slots := 0, locals := 12 } : Room).slots) := by
  refine MetFree.of_bodySF (plainFor_of_name pn_0) hisR ?_
  intro p e s m args below meth c s₁ Bd hml0 hP hK
  obtain ⟨rfl, hZ, hh⟩ := hP
  have hx := Bd.exec
  have hby := Bd.bytes
  have hml : c.maxLocals = 1 := hml0
  have hown : s.vm.findClass "java/util/AbstractCollection" = some m.cls := findClass_of_methodNamed Bd.named
  have hnm := (name_of_methodNamed Bd.named Bd.method).1
  have X0 : Stand p l e ({ frames := 1, cells := 0, slots := 0, locals := 12 } : Room) s m #[(.ref a)] below meth c s₁ [] 0 0 := Stand.of_body Bd
  have e0 : s₁.heap = h0 := by rw [← hh, Bd.state]; rfl
  have N0 := Fr.nil n0
  obtain ⟨A0, hA0⟩ : ∃ A, A = s₁.setTop (entryFrame m #[(.ref a)] 1) := ⟨_, rfl⟩
  have G0 : Go p e below A0 (s₁.setTop (mkF m 0 #[.val (.ref a)] [])) := fun tq kq => by rw [hA0]; exact castTop (ef_rm3 m a) kq
  have G1 : Go p e below A0 (s₁.setTop (mkF m 1 #[.val (.ref a)] [(.ref a)])) := fun tq kq => G0 tq (by
    refine XS.aloadN X0.here hx rfl (hb hby d3_0) rfl rfl ?_
    show Steps p.tables e below (s₁.setTop (mkF m 1 #[.val (.ref a)] [(.ref a)])) _
    exact kq)
  obtain ⟨T2, X2, e2, st2⟩ := initO X0 hx hZ hown (hw _ (List.mem_of_getElem? (i := 19) rfl)) (hw _ (List.mem_of_getElem? (i := 20) rfl)) (hw _ (List.mem_of_getElem? (i := 21) rfl)) e0 (g := (mkF m 1 #[.val (.ref a)] [(.ref a)])) rfl (by rw [hml]; rfl) rfl (hb hby d3_1) (by decide) (W := 0) (by show 2 * 0 + _ ≤ _; exact Nat.le_of_eq rfl) (by decide)
  have G3 : Go p e below A0 (T2.setTop (mkF m 4 #[.val (.ref a)] [])) := fun tq kq => G1 tq (st2 _ kq)
  obtain ⟨fs, hr, hrun, hended, hW, hsame⟩ := X2.leave (v := none) (fun _ => rfl)
  refine ⟨_, _, (by rw [← hA0]; exact G3 _ (X2.returnOut hx Bd.returns (hb hby d3_4) hr)), hrun, hended, _, _, rfl, ?_, ⟨_, rfl⟩, hW, hsame.mono (by decide) (by decide)⟩
  exact ⟨rfl, N0, e2⟩
def Qal (Z : State) (a : Addr) (r : Option Value) (mc : Int32) (ed : Value) (sz : Int32) (h0 : Heap) (n0 : Nat) (v : Option Value) (h : Heap) (L : List Loc) : Prop := v = r ∧ Fr n0 L ∧ Keep h0 h [a] ∧ Fld Z h a "java/util/AbstractList" "modCount" "I" (.int mc) ∧ Fld Z h a "java/util/ArrayList" "elementData" "[Ljava/lang/Object;" ed ∧ Fld Z h a "java/util/ArrayList" "size" "I" (.int sz)
set_option maxRecDepth 65536 in
set_option maxHeartbeats 40000000 in
theorem rm2 (l : Launch) (Z : State) (a0 : Array Value) (hw : ∀ d ∈ tables_1, d.before a0 Z = true) (ws : List Jvm.Cond) (a : Addr) (h0 : Heap) (n0 : Nat) (Z0 : n0 ≤ h0.size) (E : Exa Z h0 a "java/util/ArrayList") (ga : n0 ≤ a) (F0 : Fld Z h0 a "java/util/AbstractList" "modCount" "I" (.int (0 : Int32))) (F1 : Fld Z h0 a "java/util/ArrayList" "elementData" "[Ljava/lang/Object;" .null) (F2 : Fld Z h0 a "java/util/ArrayList" "size" "I" (.int (0 : Int32))) :
    MetFree l (⟨"java/util/AbstractList", "<init>", "()V"⟩ : MethodName) (head1 (Jvm.Cond.code (⟨"java/util/AbstractList", "<init>", "()V"⟩ : MethodName) jdk_39_method_1_code 1 none :: ws) ({ frames := 2, cells := 0, slots := 0, locals := 24 } : Room)) (fun aa UU => aa = #[(.ref a)] ∧ Z.Warmed39 UU.vm ∧ UU.heap = h0) (fun _ _ _ _ _ => True) (fun _ UU oo U' => ∃ v L, oo = .returned v ∧ Qal Z a none (0 : Int32) .null (0 : Int32) h0 n0 v U'.heap L ∧ FrameEnd UU oo U' L ({ frames := 2, cells := 0, slots := 0, locals := 24 } : Room).cells ({ frames := 2, cells := 0, slots := 0, locals := 24 } : Room).slots) := by
  refine MetFree.of_bodySF (plainFor_of_name pn_1) hisR ?_
  intro p e s m args below meth c s₁ Bd hml0 hP hK
  obtain ⟨rfl, hZ, hh⟩ := hP
  have hx := Bd.exec
  have hby := Bd.bytes
  have hml : c.maxLocals = 1 := hml0
  have hown : s.vm.findClass "java/util/AbstractList" = some m.cls := findClass_of_methodNamed Bd.named
  have hnm := (name_of_methodNamed Bd.named Bd.method).1
  have X0 : Stand p l e ({ frames := 2, cells := 0, slots := 0, locals := 24 } : Room) s m #[(.ref a)] below meth c s₁ [] 0 0 := Stand.of_body Bd
  have e0 : s₁.heap = h0 := by rw [← hh, Bd.state]; rfl
  have N0 := Fr.nil n0
  obtain ⟨A0, hA0⟩ : ∃ A, A = s₁.setTop (entryFrame m #[(.ref a)] 1) := ⟨_, rfl⟩
  have G0 : Go p e below A0 (s₁.setTop (mkF m 0 #[.val (.ref a)] [])) := fun tq kq => by rw [hA0]; exact castTop (ef_rm2 m a) kq
  have G4 : Go p e below A0 (s₁.setTop (mkF m 1 #[.val (.ref a)] [(.ref a)])) := fun tq kq => G0 tq (by
    refine XS.aloadN X0.here hx rfl (hb hby d2_0) rfl rfl ?_
    show Steps p.tables e below (s₁.setTop (mkF m 1 #[.val (.ref a)] [(.ref a)])) _
    exact kq)
  obtain ⟨_, _, ⟨T5, L5, k5, n5⟩, -, X5, ⟨Lc5, hQ5, l5, y5, z5⟩, st5⟩ := X0.specialBack hx (y := (⟨"java/util/AbstractCollection", "<init>", "()V"⟩ : MethodName)) rfl hown (mvT hZ (hw _ (List.mem_of_getElem? (i := 13) rfl))) (mvT hZ (hw _ (List.mem_of_getElem? (i := 14) rfl))) (mvT hZ (hw _ (List.mem_of_getElem? (i := 18) rfl))) (by decide) (backOf (W := 0) (rm3 l Z a0 hw [] a h0 n0 Z0) hZ (hw _ (List.mem_of_getElem? (i := 18) rfl)) (hw _ (List.mem_of_getElem? (i := 17) rfl)) (by decide) (by decide)) (g := (mkF m 1 #[.val (.ref a)] [(.ref a)])) rfl (by rw [hml]; rfl) (Steps.refl _) (a := a) (argsL := []) (rest := []) (lenOf pd_0 rfl) rfl (by show 2 * 0 + _ ≤ _; exact Nat.le_of_eq rfl) (hb hby d2_1) (fun _ _ => ⟨rfl, e0, (by decide : 0 + 0 ≤ _), (by decide : 0 + 0 ≤ _)⟩)
  dsimp only [Pt.U, Pt.locs, Pt.cells, Pt.slots] at X5 l5 y5 z5 st5 hQ5
  obtain rfl : k5 = 0 := y5
  obtain rfl : n5 = 0 := z5
  obtain ⟨rfl, N5q, e5⟩ := hQ5
  have N5 : Fr n0 L5 := by rw [l5]; exact Fr.app N0 N5q
  have G6 : Go p e below A0 (T5.setTop (mkF m 4 #[.val (.ref a)] [])) := fun tq kq => G4 tq (st5.trans kq)
  have G7 : Go p e below A0 (T5.setTop (mkF m 6 #[.val (.ref a)] [(.int (0 : Int32)), (.ref a)])) := fun tq kq => G6 tq (by
    refine XS.aloadN X5.here hx rfl (hb hby d2_4) rfl rfl ?_
    show Steps p.tables e below (T5.setTop (mkF m 5 #[.val (.ref a)] [(.ref a)])) _
    refine XS.iconst X5.here hx rfl (hb hby d2_5) ?_
    show Steps p.tables e below (T5.setTop (mkF m 6 #[.val (.ref a)] [(.int (0 : Int32)), (.ref a)])) _
    exact kq)
  obtain ⟨T8, h8, X8, e8, W8, st8⟩ := putF X5 hx hZ hown (host := "") (Or.inl (hw _ (List.mem_of_getElem? (i := 22) rfl))) Via.refl e5 F0 E (Or.inl (hw _ (List.mem_of_getElem? (i := 23) rfl))) (hw _ (List.mem_of_getElem? (i := 2) rfl)) (ty := .int) (by decide) rfl rfl (g := (mkF m 6 #[.val (.ref a)] [(.int (0 : Int32)), (.ref a)])) rfl rfl (hb hby d2_6)
  have N8 := Fr.snoc X8 N5 ga
  have fw8 := F0.same W8
  have G9 : Go p e below A0 (T8.setTop (mkF m 9 #[.val (.ref a)] [])) := fun tq kq => G7 tq (st8 _ kq)
  have f10 := (F1.other W8 (Or.inr (slot_ne (Or.inl (hw _ (List.mem_of_getElem? (i := 26) rfl))) (Or.inl (hw _ (List.mem_of_getElem? (i := 23) rfl))) (by decide) (t := (.array (.object "java/lang/Object"))) (t' := .int) (by decide) (by decide))))
  have f11 := (F2.other W8 (Or.inr (slot_ne (Or.inl (hw _ (List.mem_of_getElem? (i := 61) rfl))) (Or.inl (hw _ (List.mem_of_getElem? (i := 23) rfl))) (by decide) (t := .int) (t' := .int) (by decide) (by decide))))
  obtain ⟨fs, hr, hrun, hended, hW, hsame⟩ := X8.leave (v := none) (fun _ => rfl)
  refine ⟨_, _, (by rw [← hA0]; exact G9 _ (X8.returnOut hx Bd.returns (hb hby d2_9) hr)), hrun, hended, _, _, rfl, ?_, ⟨_, rfl⟩, hW, hsame.mono (by decide) (by decide)⟩
  show Qal Z a none (0 : Int32) .null (0 : Int32) h0 n0 _ T8.heap _
  rw [e8]
  exact ⟨rfl, N8, ((Keep.refl h0 [a]).wr W8 (Or.inl (List.mem_of_getElem? (i := 0) rfl))), fw8, f10, f11⟩
set_option maxRecDepth 65536 in
set_option maxHeartbeats 40000000 in
theorem rm1 (l : Launch) (Z : State) (a0 : Array Value) (hw : ∀ d ∈ tables_1, d.before a0 Z = true) (ws : List Jvm.Cond) (a da : Addr) (h0 : Heap) (n0 : Nat) (Z0 : n0 ≤ h0.size) (E : Exa Z h0 a "java/util/ArrayList") (ga : n0 ≤ a) (F0 : Fld Z h0 a "java/util/AbstractList" "modCount" "I" (.int (0 : Int32))) (F1 : Fld Z h0 a "java/util/ArrayList" "elementData" "[Ljava/lang/Object;" .null) (F2 : Fld Z h0 a "java/util/ArrayList" "size" "I" (.int (0 : Int32))) (hold : Old Z n0 h0) (hSd : Sta Z Z.heap "java/util/ArrayList" "DEFAULTCAPACITY_EMPTY_ELEMENTDATA" "[Ljava/lang/Object;" (.ref da)) :
    MetFree l (⟨"java/util/ArrayList", "<init>", "()V"⟩ : MethodName) (head1 (Jvm.Cond.code (⟨"java/util/ArrayList", "<init>", "()V"⟩ : MethodName) jdk_38_method_2_code 1 none :: ws) ({ frames := 3, cells := 0, slots := 0, locals := 36 } : Room)) (fun aa UU => aa = #[(.ref a)] ∧ Z.Warmed39 UU.vm ∧ UU.heap = h0) (fun _ _ _ _ _ => True) (fun _ UU oo U' => ∃ v L, oo = .returned v ∧ Qal Z a none (0 : Int32) (.ref da) (0 : Int32) h0 n0 v U'.heap L ∧ FrameEnd UU oo U' L ({ frames := 3, cells := 0, slots := 0, locals := 36 } : Room).cells ({ frames := 3, cells := 0, slots := 0, locals := 36 } : Room).slots) := by
  refine MetFree.of_bodySF (plainFor_of_name pn_2) hisR ?_
  intro p e s m args below meth c s₁ Bd hml0 hP hK
  obtain ⟨rfl, hZ, hh⟩ := hP
  have hx := Bd.exec
  have hby := Bd.bytes
  have hml : c.maxLocals = 1 := hml0
  have hown : s.vm.findClass "java/util/ArrayList" = some m.cls := findClass_of_methodNamed Bd.named
  have hnm := (name_of_methodNamed Bd.named Bd.method).1
  have X0 : Stand p l e ({ frames := 3, cells := 0, slots := 0, locals := 36 } : Room) s m #[(.ref a)] below meth c s₁ [] 0 0 := Stand.of_body Bd
  have e0 : s₁.heap = h0 := by rw [← hh, Bd.state]; rfl
  have N0 := Fr.nil n0
  obtain ⟨A0, hA0⟩ : ∃ A, A = s₁.setTop (entryFrame m #[(.ref a)] 1) := ⟨_, rfl⟩
  have G0 : Go p e below A0 (s₁.setTop (mkF m 0 #[.val (.ref a)] [])) := fun tq kq => by rw [hA0]; exact castTop (ef_rm1 m a) kq
  have G12 : Go p e below A0 (s₁.setTop (mkF m 1 #[.val (.ref a)] [(.ref a)])) := fun tq kq => G0 tq (by
    refine XS.aloadN X0.here hx rfl (hb hby d1_0) rfl rfl ?_
    show Steps p.tables e below (s₁.setTop (mkF m 1 #[.val (.ref a)] [(.ref a)])) _
    exact kq)
  obtain ⟨_, _, ⟨T13, L13, k13, n13⟩, -, X13, ⟨Lc13, hQ13, l13, y13, z13⟩, st13⟩ := X0.specialBack hx (y := (⟨"java/util/AbstractList", "<init>", "()V"⟩ : MethodName)) rfl hown (mvT hZ (hw _ (List.mem_of_getElem? (i := 7) rfl))) (mvT hZ (hw _ (List.mem_of_getElem? (i := 8) rfl))) (mvT hZ (hw _ (List.mem_of_getElem? (i := 12) rfl))) (by decide) (backOf (W := 0) (rm2 l Z a0 hw [] a  h0 n0 Z0 E ga F0 F1 F2 ) hZ (hw _ (List.mem_of_getElem? (i := 12) rfl)) (hw _ (List.mem_of_getElem? (i := 11) rfl)) (by decide) (by decide)) (g := (mkF m 1 #[.val (.ref a)] [(.ref a)])) rfl (by rw [hml]; rfl) (Steps.refl _) (a := a) (argsL := []) (rest := []) (lenOf pd_0 rfl) rfl (by show 2 * 0 + _ ≤ _; exact Nat.le_of_eq rfl) (hb hby d1_1) (fun _ _ => ⟨rfl, e0, (by decide : 0 + 0 ≤ _), (by decide : 0 + 0 ≤ _)⟩)
  dsimp only [Pt.U, Pt.locs, Pt.cells, Pt.slots] at X13 l13 y13 z13 st13 hQ13
  obtain rfl : k13 = 0 := y13
  obtain rfl : n13 = 0 := z13
  obtain ⟨rfl, N13q, K13, Fx13_0, Fx13_1, Fx13_2⟩ := hQ13
  have N13 : Fr n0 L13 := by rw [l13]; exact Fr.app N0 N13q
  have G14 : Go p e below A0 (T13.setTop (mkF m 4 #[.val (.ref a)] [])) := fun tq kq => G12 tq (st13.trans kq)
  have G15 : Go p e below A0 (T13.setTop (mkF m 5 #[.val (.ref a)] [(.ref a)])) := fun tq kq => G14 tq (by
    refine XS.aloadN X13.here hx rfl (hb hby d1_4) rfl rfl ?_
    show Steps p.tables e below (T13.setTop (mkF m 5 #[.val (.ref a)] [(.ref a)])) _
    exact kq)
  obtain ⟨T16, X16, e16, st16⟩ := getS2 X13 hx hZ hown (host := "") (Or.inl (hw _ (List.mem_of_getElem? (i := 24) rfl))) Via.refl rfl (hSd.ext (hold.keep K13 (allS ga all0)).2) (g := (mkF m 5 #[.val (.ref a)] [(.ref a)])) rfl (hb hby d1_5)
  have G17 : Go p e below A0 (T16.setTop (mkF m 8 #[.val (.ref a)] [(.ref da), (.ref a)])) := fun tq kq => G15 tq (st16 _ kq)
  have f18 := (E.keep K13)
  obtain ⟨T19, h19, X19, e19, W19, st19⟩ := putF X16 hx hZ hown (host := "") (Or.inl (hw _ (List.mem_of_getElem? (i := 25) rfl))) Via.refl e16 Fx13_1 f18 (Or.inl (hw _ (List.mem_of_getElem? (i := 26) rfl))) (hw _ (List.mem_of_getElem? (i := 2) rfl)) (ty := (.array (.object "java/lang/Object"))) (by decide) rfl rfl (g := (mkF m 8 #[.val (.ref a)] [(.ref da), (.ref a)])) rfl rfl (hb hby d1_8)
  have N19 := Fr.snoc X19 N13 ga
  have fw19 := Fx13_1.same W19
  have G20 : Go p e below A0 (T19.setTop (mkF m 11 #[.val (.ref a)] [])) := fun tq kq => G17 tq (st19 _ kq)
  have f21 := (Fx13_0.other W19 (Or.inr (slot_ne (Or.inl (hw _ (List.mem_of_getElem? (i := 23) rfl))) (Or.inl (hw _ (List.mem_of_getElem? (i := 26) rfl))) (by decide) (t := .int) (t' := (.array (.object "java/lang/Object"))) (by decide) (by decide))))
  have f22 := (Fx13_2.other W19 (Or.inr (slot_ne (Or.inl (hw _ (List.mem_of_getElem? (i := 61) rfl))) (Or.inl (hw _ (List.mem_of_getElem? (i := 26) rfl))) (by decide) (t := .int) (t' := (.array (.object "java/lang/Object"))) (by decide) (by decide))))
  obtain ⟨fs, hr, hrun, hended, hW, hsame⟩ := X19.leave (v := none) (fun _ => rfl)
  refine ⟨_, _, (by rw [← hA0]; exact G20 _ (X19.returnOut hx Bd.returns (hb hby d1_11) hr)), hrun, hended, _, _, rfl, ?_, ⟨_, rfl⟩, hW, hsame.mono (by decide) (by decide)⟩
  show Qal Z a none (0 : Int32) (.ref da) (0 : Int32) h0 n0 _ T19.heap _
  rw [e19]
  exact ⟨rfl, N19, (((Keep.refl h0 [a]).trans K13 (allS (P := fun x => x ∈ [a] ∨ h0.size ≤ x) (Or.inl (List.mem_of_getElem? (i := 0) rfl)) all0)).wr W19 (Or.inl (List.mem_of_getElem? (i := 0) rfl))), f21, fw19, f22⟩
def Qv (Z : State) (a b : Addr) (h0 : Heap) (n0 : Nat) (v : Option Value) (h : Heap) (L : List Loc) : Prop := v = none ∧ Fr n0 L ∧ Keep h0 h [a] ∧ Fld Z h a "com/example/ludarc/ludarc/engine/Variable" "values" "[I" (.ref b)
set_option maxRecDepth 65536 in
set_option maxHeartbeats 40000000 in
theorem rm5 (l : Launch) (Z : State) (a0 : Array Value) (hw : ∀ d ∈ tables_1, d.before a0 Z = true) (ws : List Jvm.Cond) (a b nm : Addr) (i : Int32) (h0 : Heap) (n0 : Nat) (Z0 : n0 ≤ h0.size) (E : Exa Z h0 a "com/example/ludarc/ludarc/engine/Variable") (ga : n0 ≤ a) (F0 : Fld Z h0 a "com/example/ludarc/ludarc/engine/Variable" "owner" "Lcom/example/ludarc/ludarc/engine/Network$Builder;" .null) (F1 : Fld Z h0 a "com/example/ludarc/ludarc/engine/Variable" "index" "I" (.int (0 : Int32))) (F2 : Fld Z h0 a "com/example/ludarc/ludarc/engine/Variable" "name" "Ljava/lang/String;" .null) (F3 : Fld Z h0 a "com/example/ludarc/ludarc/engine/Variable" "values" "[I" .null) (F4 : Fld Z h0 a "com/example/ludarc/ludarc/engine/Variable" "probabilities" "[D" .null) :
    MetFree l (⟨"com/example/ludarc/ludarc/engine/Variable", "<init>", "(Lcom/example/ludarc/ludarc/engine/Network$Builder;ILjava/lang/String;[I[D)V"⟩ : MethodName) (head1 (Jvm.Cond.code (⟨"com/example/ludarc/ludarc/engine/Variable", "<init>", "(Lcom/example/ludarc/ludarc/engine/Network$Builder;ILjava/lang/String;[I[D)V"⟩ : MethodName) prog_18_method_1_code 6 none :: ws) ({ frames := 1, cells := 0, slots := 0, locals := 12 } : Room)) (fun aa UU => aa = #[(.ref a), .null, (.int i), (.ref nm), (.ref b), .null] ∧ Z.Warmed39 UU.vm ∧ UU.heap = h0) (fun _ _ _ _ _ => True) (fun _ UU oo U' => ∃ v L, oo = .returned v ∧ Qv Z a b h0 n0 v U'.heap L ∧ FrameEnd UU oo U' L ({ frames := 1, cells := 0, slots := 0, locals := 12 } : Room).cells ({ frames := 1, cells := 0, slots := 0, locals := 12 } : Room).slots) := by
  refine MetFree.of_bodySF (plainFor_of_name pn_3) hisR ?_
  intro p e s m args below meth c s₁ Bd hml0 hP hK
  obtain ⟨rfl, hZ, hh⟩ := hP
  have hx := Bd.exec
  have hby := Bd.bytes
  have hml : c.maxLocals = 6 := hml0
  have hown : s.vm.findClass "com/example/ludarc/ludarc/engine/Variable" = some m.cls := findClass_of_methodNamed Bd.named
  have hnm := (name_of_methodNamed Bd.named Bd.method).1
  have X0 : Stand p l e ({ frames := 1, cells := 0, slots := 0, locals := 12 } : Room) s m #[(.ref a), .null, (.int i), (.ref nm), (.ref b), .null] below meth c s₁ [] 0 0 := Stand.of_body Bd
  have e0 : s₁.heap = h0 := by rw [← hh, Bd.state]; rfl
  have N0 := Fr.nil n0
  obtain ⟨A0, hA0⟩ : ∃ A, A = s₁.setTop (entryFrame m #[(.ref a), .null, (.int i), (.ref nm), (.ref b), .null] 6) := ⟨_, rfl⟩
  have G0 : Go p e below A0 (s₁.setTop (mkF m 0 #[.val (.ref a), .val .null, .val (.int i), .val (.ref nm), .val (.ref b), .val .null] [])) := fun tq kq => by rw [hA0]; exact castTop (ef_rm5 m a i nm b) kq
  have G23 : Go p e below A0 (s₁.setTop (mkF m 1 #[.val (.ref a), .val .null, .val (.int i), .val (.ref nm), .val (.ref b), .val .null] [(.ref a)])) := fun tq kq => G0 tq (by
    refine XS.aloadN X0.here hx rfl (hb hby d5_0) rfl rfl ?_
    show Steps p.tables e below (s₁.setTop (mkF m 1 #[.val (.ref a), .val .null, .val (.int i), .val (.ref nm), .val (.ref b), .val .null] [(.ref a)])) _
    exact kq)
  obtain ⟨T24, X24, e24, st24⟩ := initO X0 hx hZ hown (hw _ (List.mem_of_getElem? (i := 42) rfl)) (hw _ (List.mem_of_getElem? (i := 20) rfl)) (hw _ (List.mem_of_getElem? (i := 21) rfl)) e0 (g := (mkF m 1 #[.val (.ref a), .val .null, .val (.int i), .val (.ref nm), .val (.ref b), .val .null] [(.ref a)])) rfl (by rw [hml]; rfl) rfl (hb hby d5_1) (by decide) (W := 0) (by show 2 * 0 + _ ≤ _; exact Nat.le_of_eq rfl) (by decide)
  have G25 : Go p e below A0 (T24.setTop (mkF m 4 #[.val (.ref a), .val .null, .val (.int i), .val (.ref nm), .val (.ref b), .val .null] [])) := fun tq kq => G23 tq (st24 _ kq)
  have G26 : Go p e below A0 (T24.setTop (mkF m 6 #[.val (.ref a), .val .null, .val (.int i), .val (.ref nm), .val (.ref b), .val .null] [.null, (.ref a)])) := fun tq kq => G25 tq (by
    refine XS.aloadN X24.here hx rfl (hb hby d5_4) rfl rfl ?_
    show Steps p.tables e below (T24.setTop (mkF m 5 #[.val (.ref a), .val .null, .val (.int i), .val (.ref nm), .val (.ref b), .val .null] [(.ref a)])) _
    refine XS.aloadN X24.here hx rfl (hb hby d5_5) rfl rfl ?_
    show Steps p.tables e below (T24.setTop (mkF m 6 #[.val (.ref a), .val .null, .val (.int i), .val (.ref nm), .val (.ref b), .val .null] [.null, (.ref a)])) _
    exact kq)
  obtain ⟨T27, h27, X27, e27, W27, st27⟩ := putF X24 hx hZ hown (host := "") (Or.inl (hw _ (List.mem_of_getElem? (i := 43) rfl))) Via.refl e24 F0 E (Or.inr ⟨(hw _ (List.mem_of_getElem? (i := 44) rfl)), rfl, hnm⟩) (hw _ (List.mem_of_getElem? (i := 28) rfl)) (ty := (.object "com/example/ludarc/ludarc/engine/Network$Builder")) (by decide) rfl rfl (g := (mkF m 6 #[.val (.ref a), .val .null, .val (.int i), .val (.ref nm), .val (.ref b), .val .null] [.null, (.ref a)])) rfl rfl (hb hby d5_6)
  have N27 := Fr.snoc X27 N0 ga
  have fw27 := F0.same W27
  have G28 : Go p e below A0 (T27.setTop (mkF m 9 #[.val (.ref a), .val .null, .val (.int i), .val (.ref nm), .val (.ref b), .val .null] [])) := fun tq kq => G26 tq (st27 _ kq)
  have G29 : Go p e below A0 (T27.setTop (mkF m 11 #[.val (.ref a), .val .null, .val (.int i), .val (.ref nm), .val (.ref b), .val .null] [(.int i), (.ref a)])) := fun tq kq => G28 tq (by
    refine XS.aloadN X27.here hx rfl (hb hby d5_9) rfl rfl ?_
    show Steps p.tables e below (T27.setTop (mkF m 10 #[.val (.ref a), .val .null, .val (.int i), .val (.ref nm), .val (.ref b), .val .null] [(.ref a)])) _
    refine XS.iloadN X27.here hx rfl (hb hby d5_10) rfl ?_
    show Steps p.tables e below (T27.setTop (mkF m 11 #[.val (.ref a), .val .null, .val (.int i), .val (.ref nm), .val (.ref b), .val .null] [(.int i), (.ref a)])) _
    exact kq)
  have f30 := (E.wr W27)
  have f31 := (F1.other W27 (Or.inr (slot_ne (Or.inr (hw _ (List.mem_of_getElem? (i := 46) rfl))) (Or.inr (hw _ (List.mem_of_getElem? (i := 44) rfl))) (by decide) (t := .int) (t' := (.object "com/example/ludarc/ludarc/engine/Network$Builder")) (by decide) (by decide))))
  obtain ⟨T32, h32, X32, e32, W32, st32⟩ := putF X27 hx hZ hown (host := "") (Or.inl (hw _ (List.mem_of_getElem? (i := 45) rfl))) Via.refl e27 f31 f30 (Or.inr ⟨(hw _ (List.mem_of_getElem? (i := 46) rfl)), rfl, hnm⟩) (hw _ (List.mem_of_getElem? (i := 28) rfl)) (ty := .int) (by decide) rfl rfl (g := (mkF m 11 #[.val (.ref a), .val .null, .val (.int i), .val (.ref nm), .val (.ref b), .val .null] [(.int i), (.ref a)])) rfl rfl (hb hby d5_11)
  have N32 := Fr.snoc X32 N27 ga
  have fw32 := f31.same W32
  have G33 : Go p e below A0 (T32.setTop (mkF m 14 #[.val (.ref a), .val .null, .val (.int i), .val (.ref nm), .val (.ref b), .val .null] [])) := fun tq kq => G29 tq (st32 _ kq)
  have G34 : Go p e below A0 (T32.setTop (mkF m 16 #[.val (.ref a), .val .null, .val (.int i), .val (.ref nm), .val (.ref b), .val .null] [(.ref nm), (.ref a)])) := fun tq kq => G33 tq (by
    refine XS.aloadN X32.here hx rfl (hb hby d5_14) rfl rfl ?_
    show Steps p.tables e below (T32.setTop (mkF m 15 #[.val (.ref a), .val .null, .val (.int i), .val (.ref nm), .val (.ref b), .val .null] [(.ref a)])) _
    refine XS.aloadN X32.here hx rfl (hb hby d5_15) rfl rfl ?_
    show Steps p.tables e below (T32.setTop (mkF m 16 #[.val (.ref a), .val .null, .val (.int i), .val (.ref nm), .val (.ref b), .val .null] [(.ref nm), (.ref a)])) _
    exact kq)
  have f35 := (f30.wr W32)
  have f36 := ((F2.other W27 (Or.inr (slot_ne (Or.inr (hw _ (List.mem_of_getElem? (i := 48) rfl))) (Or.inr (hw _ (List.mem_of_getElem? (i := 44) rfl))) (by decide) (t := (.object "java/lang/String")) (t' := (.object "com/example/ludarc/ludarc/engine/Network$Builder")) (by decide) (by decide)))).other W32 (Or.inr (slot_ne (Or.inr (hw _ (List.mem_of_getElem? (i := 48) rfl))) (Or.inr (hw _ (List.mem_of_getElem? (i := 46) rfl))) (by decide) (t := (.object "java/lang/String")) (t' := .int) (by decide) (by decide))))
  obtain ⟨T37, h37, X37, e37, W37, st37⟩ := putF X32 hx hZ hown (host := "") (Or.inl (hw _ (List.mem_of_getElem? (i := 47) rfl))) Via.refl e32 f36 f35 (Or.inr ⟨(hw _ (List.mem_of_getElem? (i := 48) rfl)), rfl, hnm⟩) (hw _ (List.mem_of_getElem? (i := 28) rfl)) (ty := (.object "java/lang/String")) (by decide) rfl rfl (g := (mkF m 16 #[.val (.ref a), .val .null, .val (.int i), .val (.ref nm), .val (.ref b), .val .null] [(.ref nm), (.ref a)])) rfl rfl (hb hby d5_16)
  have N37 := Fr.snoc X37 N32 ga
  have fw37 := f36.same W37
  have G38 : Go p e below A0 (T37.setTop (mkF m 19 #[.val (.ref a), .val .null, .val (.int i), .val (.ref nm), .val (.ref b), .val .null] [])) := fun tq kq => G34 tq (st37 _ kq)
  have G39 : Go p e below A0 (T37.setTop (mkF m 22 #[.val (.ref a), .val .null, .val (.int i), .val (.ref nm), .val (.ref b), .val .null] [(.ref b), (.ref a)])) := fun tq kq => G38 tq (by
    refine XS.aloadN X37.here hx rfl (hb hby d5_19) rfl rfl ?_
    show Steps p.tables e below (T37.setTop (mkF m 20 #[.val (.ref a), .val .null, .val (.int i), .val (.ref nm), .val (.ref b), .val .null] [(.ref a)])) _
    refine XS.aload X37.here hx rfl (hb hby d5_20) rfl rfl ?_
    show Steps p.tables e below (T37.setTop (mkF m 22 #[.val (.ref a), .val .null, .val (.int i), .val (.ref nm), .val (.ref b), .val .null] [(.ref b), (.ref a)])) _
    exact kq)
  have f40 := (f35.wr W37)
  have f41 := (((F3.other W27 (Or.inr (slot_ne (Or.inr (hw _ (List.mem_of_getElem? (i := 50) rfl))) (Or.inr (hw _ (List.mem_of_getElem? (i := 44) rfl))) (by decide) (t := (.array .int)) (t' := (.object "com/example/ludarc/ludarc/engine/Network$Builder")) (by decide) (by decide)))).other W32 (Or.inr (slot_ne (Or.inr (hw _ (List.mem_of_getElem? (i := 50) rfl))) (Or.inr (hw _ (List.mem_of_getElem? (i := 46) rfl))) (by decide) (t := (.array .int)) (t' := .int) (by decide) (by decide)))).other W37 (Or.inr (slot_ne (Or.inr (hw _ (List.mem_of_getElem? (i := 50) rfl))) (Or.inr (hw _ (List.mem_of_getElem? (i := 48) rfl))) (by decide) (t := (.array .int)) (t' := (.object "java/lang/String")) (by decide) (by decide))))
  obtain ⟨T42, h42, X42, e42, W42, st42⟩ := putF X37 hx hZ hown (host := "") (Or.inl (hw _ (List.mem_of_getElem? (i := 49) rfl))) Via.refl e37 f41 f40 (Or.inr ⟨(hw _ (List.mem_of_getElem? (i := 50) rfl)), rfl, hnm⟩) (hw _ (List.mem_of_getElem? (i := 28) rfl)) (ty := (.array .int)) (by decide) rfl rfl (g := (mkF m 22 #[.val (.ref a), .val .null, .val (.int i), .val (.ref nm), .val (.ref b), .val .null] [(.ref b), (.ref a)])) rfl rfl (hb hby d5_22)
  have N42 := Fr.snoc X42 N37 ga
  have fw42 := f41.same W42
  have G43 : Go p e below A0 (T42.setTop (mkF m 25 #[.val (.ref a), .val .null, .val (.int i), .val (.ref nm), .val (.ref b), .val .null] [])) := fun tq kq => G39 tq (st42 _ kq)
  have G44 : Go p e below A0 (T42.setTop (mkF m 28 #[.val (.ref a), .val .null, .val (.int i), .val (.ref nm), .val (.ref b), .val .null] [.null, (.ref a)])) := fun tq kq => G43 tq (by
    refine XS.aloadN X42.here hx rfl (hb hby d5_25) rfl rfl ?_
    show Steps p.tables e below (T42.setTop (mkF m 26 #[.val (.ref a), .val .null, .val (.int i), .val (.ref nm), .val (.ref b), .val .null] [(.ref a)])) _
    refine XS.aload X42.here hx rfl (hb hby d5_26) rfl rfl ?_
    show Steps p.tables e below (T42.setTop (mkF m 28 #[.val (.ref a), .val .null, .val (.int i), .val (.ref nm), .val (.ref b), .val .null] [.null, (.ref a)])) _
    exact kq)
  have f45 := (f40.wr W42)
  have f46 := ((((F4.other W27 (Or.inr (slot_ne (Or.inr (hw _ (List.mem_of_getElem? (i := 52) rfl))) (Or.inr (hw _ (List.mem_of_getElem? (i := 44) rfl))) (by decide) (t := (.array .double)) (t' := (.object "com/example/ludarc/ludarc/engine/Network$Builder")) (by decide) (by decide)))).other W32 (Or.inr (slot_ne (Or.inr (hw _ (List.mem_of_getElem? (i := 52) rfl))) (Or.inr (hw _ (List.mem_of_getElem? (i := 46) rfl))) (by decide) (t := (.array .double)) (t' := .int) (by decide) (by decide)))).other W37 (Or.inr (slot_ne (Or.inr (hw _ (List.mem_of_getElem? (i := 52) rfl))) (Or.inr (hw _ (List.mem_of_getElem? (i := 48) rfl))) (by decide) (t := (.array .double)) (t' := (.object "java/lang/String")) (by decide) (by decide)))).other W42 (Or.inr (slot_ne (Or.inr (hw _ (List.mem_of_getElem? (i := 52) rfl))) (Or.inr (hw _ (List.mem_of_getElem? (i := 50) rfl))) (by decide) (t := (.array .double)) (t' := (.array .int)) (by decide) (by decide))))
  obtain ⟨T47, h47, X47, e47, W47, st47⟩ := putF X42 hx hZ hown (host := "") (Or.inl (hw _ (List.mem_of_getElem? (i := 51) rfl))) Via.refl e42 f46 f45 (Or.inr ⟨(hw _ (List.mem_of_getElem? (i := 52) rfl)), rfl, hnm⟩) (hw _ (List.mem_of_getElem? (i := 28) rfl)) (ty := (.array .double)) (by decide) rfl rfl (g := (mkF m 28 #[.val (.ref a), .val .null, .val (.int i), .val (.ref nm), .val (.ref b), .val .null] [.null, (.ref a)])) rfl rfl (hb hby d5_28)
  have N47 := Fr.snoc X47 N42 ga
  have fw47 := f46.same W47
  have G48 : Go p e below A0 (T47.setTop (mkF m 31 #[.val (.ref a), .val .null, .val (.int i), .val (.ref nm), .val (.ref b), .val .null] [])) := fun tq kq => G44 tq (st47 _ kq)
  have f49 := (fw42.other W47 (Or.inr (slot_ne (Or.inr (hw _ (List.mem_of_getElem? (i := 50) rfl))) (Or.inr (hw _ (List.mem_of_getElem? (i := 52) rfl))) (by decide) (t := (.array .int)) (t' := (.array .double)) (by decide) (by decide))))
  obtain ⟨fs, hr, hrun, hended, hW, hsame⟩ := X47.leave (v := none) (fun _ => rfl)
  refine ⟨_, _, (by rw [← hA0]; exact G48 _ (X47.returnOut hx Bd.returns (hb hby d5_31) hr)), hrun, hended, _, _, rfl, ?_, ⟨_, rfl⟩, hW, hsame.mono (by decide) (by decide)⟩
  show Qv Z a b h0 n0 _ T47.heap _
  rw [e47]
  exact ⟨rfl, N47, ((((((Keep.refl h0 [a]).wr W27 (Or.inl (List.mem_of_getElem? (i := 0) rfl))).wr W32 (Or.inl (List.mem_of_getElem? (i := 0) rfl))).wr W37 (Or.inl (List.mem_of_getElem? (i := 0) rfl))).wr W42 (Or.inl (List.mem_of_getElem? (i := 0) rfl))).wr W47 (Or.inl (List.mem_of_getElem? (i := 0) rfl))), f49⟩
set_option maxRecDepth 65536 in
set_option maxHeartbeats 40000000 in
theorem rm17 (l : Launch) (Z : State) (a0 : Array Value) (hw : ∀ d ∈ tables_1, d.before a0 Z = true) (ws : List Jvm.Cond) (a b : Addr) (n : Int32) (kb : ClassId) (vs : List Value) (h0 : Heap) (n0 : Nat) (Z0 : n0 ≤ h0.size) (F : Fld Z h0 a "com/example/ludarc/ludarc/engine/Variable" "values" "[I" (.ref b)) (A : Arv Z h0 b kb .int n vs (.int (0 : Int32))) :
    MetFree l (⟨"com/example/ludarc/ludarc/engine/Variable", "size", "()I"⟩ : MethodName) (head1 (Jvm.Cond.code (⟨"com/example/ludarc/ludarc/engine/Variable", "size", "()I"⟩ : MethodName) prog_18_method_8_code 1 (some .int) :: ws) ({ frames := 0, cells := 0, slots := 0, locals := 0 } : Room)) (fun aa UU => aa = #[(.ref a)] ∧ Z.Warmed39 UU.vm ∧ UU.heap = h0) (fun _ _ _ _ _ => True) (fun _ UU oo U' => ∃ v L, oo = .returned v ∧ Qr (.int n) h0 n0 v U'.heap L ∧ FrameEnd UU oo U' L ({ frames := 0, cells := 0, slots := 0, locals := 0 } : Room).cells ({ frames := 0, cells := 0, slots := 0, locals := 0 } : Room).slots) := by
  refine MetFree.of_bodySF (plainFor_of_name pn_3) hisR ?_
  intro p e s m args below meth c s₁ Bd hml0 hP hK
  obtain ⟨rfl, hZ, hh⟩ := hP
  have hx := Bd.exec
  have hby := Bd.bytes
  have hml : c.maxLocals = 1 := hml0
  have hown : s.vm.findClass "com/example/ludarc/ludarc/engine/Variable" = some m.cls := findClass_of_methodNamed Bd.named
  have hnm := (name_of_methodNamed Bd.named Bd.method).1
  have X0 : Stand p l e ({ frames := 0, cells := 0, slots := 0, locals := 0 } : Room) s m #[(.ref a)] below meth c s₁ [] 0 0 := Stand.of_body Bd
  have e0 : s₁.heap = h0 := by rw [← hh, Bd.state]; rfl
  have N0 := Fr.nil n0
  obtain ⟨A0, hA0⟩ : ∃ A, A = s₁.setTop (entryFrame m #[(.ref a)] 1) := ⟨_, rfl⟩
  have G0 : Go p e below A0 (s₁.setTop (mkF m 0 #[.val (.ref a)] [])) := fun tq kq => by rw [hA0]; exact castTop (ef_rm17 m a) kq
  have G50 : Go p e below A0 (s₁.setTop (mkF m 1 #[.val (.ref a)] [(.ref a)])) := fun tq kq => G0 tq (by
    refine XS.aloadN X0.here hx rfl (hb hby d17_0) rfl rfl ?_
    show Steps p.tables e below (s₁.setTop (mkF m 1 #[.val (.ref a)] [(.ref a)])) _
    exact kq)
  obtain ⟨T51, X51, e51, st51⟩ := getF X0 hx hZ hown (host := "") (Or.inl (hw _ (List.mem_of_getElem? (i := 49) rfl))) Via.refl e0 F (g := (mkF m 1 #[.val (.ref a)] [(.ref a)])) rfl rfl (hb hby d17_1)
  have G52 : Go p e below A0 (T51.setTop (mkF m 4 #[.val (.ref a)] [(.ref b)])) := fun tq kq => G50 tq (st51 _ kq)
  obtain ⟨cl53, Ar53, q53, S53, M53, H53, Gf53⟩ := id A
  have G54 : Go p e below A0 (T51.setTop (mkF m 5 #[.val (.ref a)] [(.int n)])) := fun tq kq => G52 tq (by
    refine X51.arraylength hx (by rw [e51]; exact Ar53.1) (State.isArrayOf_alike hZ.alike Ar53.2.1) (g := (mkF m 4 #[.val (.ref a)] [(.ref b)])) rfl rfl (hb hby d17_4) _ ?_
    rw [len_of S53 M53]
    show Steps p.tables e below (T51.setTop (mkF m 5 #[.val (.ref a)] [(.int n)])) _
    exact kq)
  obtain ⟨fs, hr, hrun, hended, hW, hsame⟩ := X51.leave (v := some (.int n)) (fun h => by rw [Bd.returns] at h; cases h)
  refine ⟨_, _, (by rw [← hA0]; exact G54 _ (retOut X51 hx (t := .int) Bd.returns rfl (Or.inl ⟨rfl, Or.inl rfl, _, rfl⟩) (hb hby d17_5) hr)), hrun, hended, _, _, rfl, ?_, ⟨_, rfl⟩, hW, hsame.mono (by decide) (by decide)⟩
  exact ⟨rfl, N0, e51⟩
set_option maxRecDepth 65536 in
set_option maxHeartbeats 40000000 in
theorem rm10 (l : Launch) (Z : State) (a0 : Array Value) (hw : ∀ d ∈ tables_1, d.before a0 Z = true) (ws : List Jvm.Cond)  (h0 : Heap) (n0 : Nat) (Z0 : n0 ≤ h0.size) :
    MetFree l (⟨"java/lang/Math", "max", "(II)I"⟩ : MethodName) (head1 (Jvm.Cond.code (⟨"java/lang/Math", "max", "(II)I"⟩ : MethodName) jdk_29_method_65_code 2 (some .int) :: ws) ({ frames := 0, cells := 0, slots := 0, locals := 0 } : Room)) (fun aa UU => aa = #[(.int (10 : Int32)), (.int (1 : Int32))] ∧ Z.Warmed39 UU.vm ∧ UU.heap = h0) (fun _ _ _ _ _ => True) (fun _ UU oo U' => ∃ v L, oo = .returned v ∧ Qr (.int (10 : Int32)) h0 n0 v U'.heap L ∧ FrameEnd UU oo U' L ({ frames := 0, cells := 0, slots := 0, locals := 0 } : Room).cells ({ frames := 0, cells := 0, slots := 0, locals := 0 } : Room).slots) := by
  refine MetFree.of_bodySF (Jvm.Free.JP.mathPlain rfl (by decide +kernel)) hisR ?_
  intro p e s m args below meth c s₁ Bd hml0 hP hK
  obtain ⟨rfl, hZ, hh⟩ := hP
  have hx := Bd.exec
  have hby := Bd.bytes
  have hml : c.maxLocals = 2 := hml0
  have hown : s.vm.findClass "java/lang/Math" = some m.cls := findClass_of_methodNamed Bd.named
  have hnm := (name_of_methodNamed Bd.named Bd.method).1
  have X0 : Stand p l e ({ frames := 0, cells := 0, slots := 0, locals := 0 } : Room) s m #[(.int (10 : Int32)), (.int (1 : Int32))] below meth c s₁ [] 0 0 := Stand.of_body Bd
  have e0 : s₁.heap = h0 := by rw [← hh, Bd.state]; rfl
  have N0 := Fr.nil n0
  obtain ⟨A0, hA0⟩ : ∃ A, A = s₁.setTop (entryFrame m #[(.int (10 : Int32)), (.int (1 : Int32))] 2) := ⟨_, rfl⟩
  have G0 : Go p e below A0 (s₁.setTop (mkF m 0 #[.val (.int (10 : Int32)), .val (.int (1 : Int32))] [])) := fun tq kq => by rw [hA0]; exact castTop (ef_rm10 m (10 : Int32) (1 : Int32)) kq
  have G55 : Go p e below A0 (s₁.setTop (mkF m 10 #[.val (.int (10 : Int32)), .val (.int (1 : Int32))] [(.int (10 : Int32))])) := fun tq kq => G0 tq (by
    refine XS.iloadN X0.here hx rfl (hb hby d10_0) rfl ?_
    show Steps p.tables e below (s₁.setTop (mkF m 1 #[.val (.int (10 : Int32)), .val (.int (1 : Int32))] [(.int (10 : Int32))])) _
    refine XS.iloadN X0.here hx rfl (hb hby d10_1) rfl ?_
    show Steps p.tables e below (s₁.setTop (mkF m 2 #[.val (.int (10 : Int32)), .val (.int (1 : Int32))] [(.int (1 : Int32)), (.int (10 : Int32))])) _
    refine XS.icmpNo X0.here hx rfl (hb hby d10_2) rfl (by decide) ?_
    show Steps p.tables e below (s₁.setTop (mkF m 5 #[.val (.int (10 : Int32)), .val (.int (1 : Int32))] [])) _
    refine XS.iloadN X0.here hx rfl (hb hby d10_5) rfl ?_
    show Steps p.tables e below (s₁.setTop (mkF m 6 #[.val (.int (10 : Int32)), .val (.int (1 : Int32))] [(.int (10 : Int32))])) _
    refine XS.goto X0.here hx rfl (pc0 := 6) (pc' := 10) rfl (hb hby d10_6) (by decide) (by decide) ?_
    show Steps p.tables e below (s₁.setTop (mkF m 10 #[.val (.int (10 : Int32)), .val (.int (1 : Int32))] [(.int (10 : Int32))])) _
    exact kq)
  obtain ⟨fs, hr, hrun, hended, hW, hsame⟩ := X0.leave (v := some (.int (10 : Int32))) (fun h => by rw [Bd.returns] at h; cases h)
  refine ⟨_, _, (by rw [← hA0]; exact G55 _ (retOut X0 hx (t := .int) Bd.returns rfl (Or.inl ⟨rfl, Or.inl rfl, _, rfl⟩) (hb hby d10_10) hr)), hrun, hended, _, _, rfl, ?_, ⟨_, rfl⟩, hW, hsame.mono (by decide) (by decide)⟩
  exact ⟨rfl, N0, e0⟩
def Qg (Z : State) (a : Addr) (mc : Int32) (h0 : Heap) (n0 : Nat) (v : Option Value) (h : Heap) (L : List Loc) : Prop := ∃ b kb, v = some (.ref b) ∧ Fr n0 L ∧ Keep h0 h [a] ∧ h0.size ≤ b ∧ n0 ≤ b ∧ Fld Z h a "java/util/AbstractList" "modCount" "I" (.int mc) ∧ Fld Z h a "java/util/ArrayList" "elementData" "[Ljava/lang/Object;" (.ref b) ∧ Fld Z h a "java/util/ArrayList" "size" "I" (.int (0 : Int32)) ∧ Arv Z h b kb (.object "java/lang/Object") (10 : Int32) [.null, .null, .null, .null, .null, .null, .null, .null, .null, .null] .null ∧ Ovr Z kb "java/lang/Object"
set_option maxRecDepth 65536 in
set_option maxHeartbeats 40000000 in
theorem rm9 (l : Launch) (Z : State) (a0 : Array Value) (hw : ∀ d ∈ tables_1, d.before a0 Z = true) (ws : List Jvm.Cond) (a da : Addr) (mc : Int32) (kd : ClassId) (h0 : Heap) (n0 : Nat) (Z0 : n0 ≤ h0.size) (E : Exa Z h0 a "java/util/ArrayList") (ga : n0 ≤ a) (F0 : Fld Z h0 a "java/util/AbstractList" "modCount" "I" (.int mc)) (F1 : Fld Z h0 a "java/util/ArrayList" "elementData" "[Ljava/lang/Object;" (.ref da)) (F2 : Fld Z h0 a "java/util/ArrayList" "size" "I" (.int (0 : Int32))) (hold : Old Z n0 h0) (hSd : Sta Z Z.heap "java/util/ArrayList" "DEFAULTCAPACITY_EMPTY_ELEMENTDATA" "[Ljava/lang/Object;" (.ref da)) (hAd : Arv Z Z.heap da kd (.object "java/lang/Object") (0 : Int32) [] .null) :
    MetFree l (⟨"java/util/ArrayList", "grow", "(I)[Ljava/lang/Object;"⟩ : MethodName) (head1 (Jvm.Cond.code (⟨"java/util/ArrayList", "grow", "(I)[Ljava/lang/Object;"⟩ : MethodName) jdk_38_method_6_code 4 (some (.array (.object "java/lang/Object"))) :: ws) ({ frames := 1, cells := 1, slots := 10, locals := 14 } : Room)) (fun aa UU => aa = #[(.ref a), (.int (1 : Int32))] ∧ Z.Warmed39 UU.vm ∧ UU.heap = h0) (fun _ _ _ _ _ => True) (fun _ UU oo U' => ∃ v L, oo = .returned v ∧ Qg Z a mc h0 n0 v U'.heap L ∧ FrameEnd UU oo U' L ({ frames := 1, cells := 1, slots := 10, locals := 14 } : Room).cells ({ frames := 1, cells := 1, slots := 10, locals := 14 } : Room).slots) := by
  refine MetFree.of_bodySF (plainFor_of_name pn_2) hisR ?_
  intro p e s m args below meth c s₁ Bd hml0 hP hK
  obtain ⟨rfl, hZ, hh⟩ := hP
  have hx := Bd.exec
  have hby := Bd.bytes
  have hml : c.maxLocals = 4 := hml0
  have hown : s.vm.findClass "java/util/ArrayList" = some m.cls := findClass_of_methodNamed Bd.named
  have hnm := (name_of_methodNamed Bd.named Bd.method).1
  have X0 : Stand p l e ({ frames := 1, cells := 1, slots := 10, locals := 14 } : Room) s m #[(.ref a), (.int (1 : Int32))] below meth c s₁ [] 0 0 := Stand.of_body Bd
  have e0 : s₁.heap = h0 := by rw [← hh, Bd.state]; rfl
  have N0 := Fr.nil n0
  obtain ⟨A0, hA0⟩ : ∃ A, A = s₁.setTop (entryFrame m #[(.ref a), (.int (1 : Int32))] 4) := ⟨_, rfl⟩
  have G0 : Go p e below A0 (s₁.setTop (mkF m 0 #[.val (.ref a), .val (.int (1 : Int32)), .unset, .unset] [])) := fun tq kq => by rw [hA0]; exact castTop (ef_rm9 m a (1 : Int32)) kq
  have hAd0 := hAd.ext hold.2
  have G56 : Go p e below A0 (s₁.setTop (mkF m 1 #[.val (.ref a), .val (.int (1 : Int32)), .unset, .unset] [(.ref a)])) := fun tq kq => G0 tq (by
    refine XS.aloadN X0.here hx rfl (hb hby d9_0) rfl rfl ?_
    show Steps p.tables e below (s₁.setTop (mkF m 1 #[.val (.ref a), .val (.int (1 : Int32)), .unset, .unset] [(.ref a)])) _
    exact kq)
  obtain ⟨T57, X57, e57, st57⟩ := getF X0 hx hZ hown (host := "") (Or.inl (hw _ (List.mem_of_getElem? (i := 25) rfl))) Via.refl e0 F1 (g := (mkF m 1 #[.val (.ref a), .val (.int (1 : Int32)), .unset, .unset] [(.ref a)])) rfl rfl (hb hby d9_1)
  have G58 : Go p e below A0 (T57.setTop (mkF m 4 #[.val (.ref a), .val (.int (1 : Int32)), .unset, .unset] [(.ref da)])) := fun tq kq => G56 tq (st57 _ kq)
  obtain ⟨cl59, Ar59, q59, S59, M59, H59, Gf59⟩ := id hAd0
  have G60 : Go p e below A0 (T57.setTop (mkF m 11 #[.val (.ref a), .val (.int (1 : Int32)), .val (.int (0 : Int32)), .unset] [(.ref a)])) := fun tq kq => G58 tq (by
    refine X57.arraylength hx (by rw [e57]; exact Ar59.1) (State.isArrayOf_alike hZ.alike Ar59.2.1) (g := (mkF m 4 #[.val (.ref a), .val (.int (1 : Int32)), .unset, .unset] [(.ref da)])) rfl rfl (hb hby d9_4) _ ?_
    rw [len_of S59 M59]
    show Steps p.tables e below (T57.setTop (mkF m 5 #[.val (.ref a), .val (.int (1 : Int32)), .unset, .unset] [(.int (0 : Int32))])) _
    refine XS.istoreN X57.here hx rfl (hb hby d9_5) rfl (l' := #[.val (.ref a), .val (.int (1 : Int32)), .val (.int (0 : Int32)), .unset]) rfl ?_
    show Steps p.tables e below (T57.setTop (mkF m 6 #[.val (.ref a), .val (.int (1 : Int32)), .val (.int (0 : Int32)), .unset] [])) _
    refine XS.iloadN X57.here hx rfl (hb hby d9_6) rfl ?_
    show Steps p.tables e below (T57.setTop (mkF m 7 #[.val (.ref a), .val (.int (1 : Int32)), .val (.int (0 : Int32)), .unset] [(.int (0 : Int32))])) _
    refine XS.ifNo X57.here hx rfl (hb hby d9_7) rfl (by decide) ?_
    show Steps p.tables e below (T57.setTop (mkF m 10 #[.val (.ref a), .val (.int (1 : Int32)), .val (.int (0 : Int32)), .unset] [])) _
    refine XS.aloadN X57.here hx rfl (hb hby d9_10) rfl rfl ?_
    show Steps p.tables e below (T57.setTop (mkF m 11 #[.val (.ref a), .val (.int (1 : Int32)), .val (.int (0 : Int32)), .unset] [(.ref a)])) _
    exact kq)
  obtain ⟨T61, X61, e61, st61⟩ := getF X57 hx hZ hown (host := "") (Or.inl (hw _ (List.mem_of_getElem? (i := 25) rfl))) Via.refl e57 F1 (g := (mkF m 11 #[.val (.ref a), .val (.int (1 : Int32)), .val (.int (0 : Int32)), .unset] [(.ref a)])) rfl rfl (hb hby d9_11)
  have G62 : Go p e below A0 (T61.setTop (mkF m 14 #[.val (.ref a), .val (.int (1 : Int32)), .val (.int (0 : Int32)), .unset] [(.ref da)])) := fun tq kq => G60 tq (st61 _ kq)
  obtain ⟨T63, X63, e63, st63⟩ := getS2 X61 hx hZ hown (host := "") (Or.inl (hw _ (List.mem_of_getElem? (i := 24) rfl))) Via.refl e61 (hSd.ext hold.2) (g := (mkF m 14 #[.val (.ref a), .val (.int (1 : Int32)), .val (.int (0 : Int32)), .unset] [(.ref da)])) rfl (hb hby d9_14)
  have G64 : Go p e below A0 (T63.setTop (mkF m 17 #[.val (.ref a), .val (.int (1 : Int32)), .val (.int (0 : Int32)), .unset] [(.ref da), (.ref da)])) := fun tq kq => G62 tq (st63 _ kq)
  have G65 : Go p e below A0 (T63.setTop (mkF m 49 #[.val (.ref a), .val (.int (1 : Int32)), .val (.int (0 : Int32)), .unset] [(.int (1 : Int32)), (.int (10 : Int32)), (.ref a)])) := fun tq kq => G64 tq (by
    refine Jvm.RoadKit.acmp (g := (mkF m 17 #[.val (.ref a), .val (.int (1 : Int32)), .val (.int (0 : Int32)), .unset] [(.ref da), (.ref da)])) X63 hx rfl rfl rfl (pc0 := 17) (pc' := 45) (same := true) rfl (hb hby d9_17) rfl (decide_eq_true rfl) (by decide) (by decide) ?_
    show Steps p.tables e below (T63.setTop (mkF m 45 #[.val (.ref a), .val (.int (1 : Int32)), .val (.int (0 : Int32)), .unset] [])) _
    refine XS.aloadN X63.here hx rfl (hb hby d9_45) rfl rfl ?_
    show Steps p.tables e below (T63.setTop (mkF m 46 #[.val (.ref a), .val (.int (1 : Int32)), .val (.int (0 : Int32)), .unset] [(.ref a)])) _
    refine XS.bipush X63.here hx rfl (hb hby d9_46) ?_
    show Steps p.tables e below (T63.setTop (mkF m 48 #[.val (.ref a), .val (.int (1 : Int32)), .val (.int (0 : Int32)), .unset] [(.int (10 : Int32)), (.ref a)])) _
    refine XS.iloadN X63.here hx rfl (hb hby d9_48) rfl ?_
    show Steps p.tables e below (T63.setTop (mkF m 49 #[.val (.ref a), .val (.int (1 : Int32)), .val (.int (0 : Int32)), .unset] [(.int (1 : Int32)), (.int (10 : Int32)), (.ref a)])) _
    exact kq)
  obtain ⟨_, _, ⟨T66, L66, k66, n66⟩, -, X66, ⟨Lc66, hQ66, l66, y66, z66⟩, st66⟩ := Jvm.LawKit.callS X63 hx (y := (⟨"java/lang/Math", "max", "(II)I"⟩ : MethodName)) hown (mvT hZ (hw _ (List.mem_of_getElem? (i := 77) rfl))) (mvT hZ (hw _ (List.mem_of_getElem? (i := 78) rfl))) (mvT hZ (hw _ (List.mem_of_getElem? (i := 79) rfl))) (mvT hZ (hw _ (List.mem_of_getElem? (i := 80) rfl))) (by decide) (backOf (W := 1) (rm10 l Z a0 hw [] h0 n0 Z0) hZ (hw _ (List.mem_of_getElem? (i := 80) rfl)) (hw _ (List.mem_of_getElem? (i := 79) rfl)) (by decide) (by decide)) (g := (mkF m 49 #[.val (.ref a), .val (.int (1 : Int32)), .val (.int (0 : Int32)), .unset] [(.int (1 : Int32)), (.int (10 : Int32)), (.ref a)])) rfl (by rw [hml]; rfl) (argsL := [(.int (10 : Int32)), (.int (1 : Int32))]) (rest := [(.ref a)]) (lenOf pd_1 rfl) rfl (by show 2 * 0 + _ ≤ _; exact Nat.le_of_eq rfl) (hb hby d9_49) (fun _ _ => ⟨rfl, e63, (by decide : 0 + 0 ≤ _), (by decide : 0 + 0 ≤ _)⟩)
  dsimp only [Pt.U, Pt.locs, Pt.cells, Pt.slots] at X66 l66 y66 z66 st66 hQ66
  obtain rfl : k66 = 0 := y66
  obtain rfl : n66 = 0 := z66
  obtain ⟨rfl, N66q, e66⟩ := hQ66
  have N66 : Fr n0 L66 := by rw [l66]; exact Fr.app N0 N66q
  have G67 : Go p e below A0 (T66.setTop (mkF m 52 #[.val (.ref a), .val (.int (1 : Int32)), .val (.int (0 : Int32)), .unset] [(.int (10 : Int32)), (.ref a)])) := fun tq kq => G65 tq (st66 _ kq)
  obtain ⟨T68, h68, k68, X68, e68, E68, A68, O68, st68⟩ := newR X66 hx hZ hown (hw _ (List.mem_of_getElem? (i := 81) rfl)) (hw _ (List.mem_of_getElem? (i := 82) rfl)) e66 (g := (mkF m 52 #[.val (.ref a), .val (.int (1 : Int32)), .val (.int (0 : Int32)), .unset] [(.int (10 : Int32)), (.ref a)])) rfl (hb hby d9_52) rfl (by decide) (cap := 10) (by decide) (by decide) (by decide) (by decide)
  obtain ⟨b68, g68⟩ : ∃ z, z = h0.size := ⟨_, rfl⟩
  rw [← g68] at A68 st68
  have sz_b68 : h0.size ≤ b68 := Nat.le_trans (Nat.le_refl h0.size) (Nat.le_of_eq g68.symm)
  have g_b68 : n0 ≤ b68 := Nat.le_trans Z0 (Nat.le_of_eq g68.symm)
  have lt_a_b68 : a < b68 := Nat.lt_of_lt_of_le E.lt (Nat.le_of_eq g68.symm)
  have lt_da_b68 : da < b68 := Nat.lt_of_lt_of_le hAd0.lt (Nat.le_of_eq g68.symm)
  have V68 : Arv Z h68 b68 k68 (.object "java/lang/Object") (10 : Int32) [.null, .null, .null, .null, .null, .null, .null, .null, .null, .null] .null := (Arv.new A68 (by decide)).pad (pad_rep [] .null 10)
  have G69 : Go p e below A0 (T68.setTop (mkF m 55 #[.val (.ref a), .val (.int (1 : Int32)), .val (.int (0 : Int32)), .unset] [(.ref b68), (.ref a)])) := fun tq kq => G67 tq (st68 _ kq)
  have G70 : Go p e below A0 (T68.setTop (mkF m 56 #[.val (.ref a), .val (.int (1 : Int32)), .val (.int (0 : Int32)), .unset] [(.ref b68), (.ref a), (.ref b68)])) := fun tq kq => G69 tq (by
    refine XS.dupX1 X68.here hx rfl (hb hby d9_55) rfl rfl rfl ?_
    show Steps p.tables e below (T68.setTop (mkF m 56 #[.val (.ref a), .val (.int (1 : Int32)), .val (.int (0 : Int32)), .unset] [(.ref b68), (.ref a), (.ref b68)])) _
    exact kq)
  have f71 := (E.ext E68)
  have f72 := (F1.ext E68)
  obtain ⟨T73, h73, X73, e73, W73, st73⟩ := putF X68 hx hZ hown (host := "") (Or.inl (hw _ (List.mem_of_getElem? (i := 25) rfl))) Via.refl e68 f72 f71 (Or.inl (hw _ (List.mem_of_getElem? (i := 26) rfl))) (hw _ (List.mem_of_getElem? (i := 2) rfl)) (ty := (.array (.object "java/lang/Object"))) (by decide) rfl rfl (g := (mkF m 56 #[.val (.ref a), .val (.int (1 : Int32)), .val (.int (0 : Int32)), .unset] [(.ref b68), (.ref a), (.ref b68)])) rfl rfl (hb hby d9_56)
  have N73 := Fr.snoc X73 N66 ga
  have fw73 := f72.same W73
  have G74 : Go p e below A0 (T73.setTop (mkF m 59 #[.val (.ref a), .val (.int (1 : Int32)), .val (.int (0 : Int32)), .unset] [(.ref b68)])) := fun tq kq => G70 tq (st73 _ kq)
  have f75 := ((F0.ext E68).other W73 (Or.inr (slot_ne (Or.inl (hw _ (List.mem_of_getElem? (i := 23) rfl))) (Or.inl (hw _ (List.mem_of_getElem? (i := 26) rfl))) (by decide) (t := .int) (t' := (.array (.object "java/lang/Object"))) (by decide) (by decide))))
  have f76 := ((F2.ext E68).other W73 (Or.inr (slot_ne (Or.inl (hw _ (List.mem_of_getElem? (i := 61) rfl))) (Or.inl (hw _ (List.mem_of_getElem? (i := 26) rfl))) (by decide) (t := .int) (t' := (.array (.object "java/lang/Object"))) (by decide) (by decide))))
  have f77 := (V68.other W73 (Ne.symm (Nat.ne_of_lt lt_a_b68)))
  obtain ⟨fs, hr, hrun, hended, hW, hsame⟩ := X73.leave (v := some (.ref b68)) (fun h => by rw [Bd.returns] at h; cases h)
  refine ⟨_, _, (by rw [← hA0]; exact G74 _ (retOut X73 hx (t := (.array (.object "java/lang/Object"))) Bd.returns rfl (Or.inr (Or.inr (Or.inr (Or.inr ⟨rfl, rfl, rfl⟩)))) (hb hby d9_59) hr)), hrun, hended, _, _, rfl, ?_, ⟨_, rfl⟩, hW, hsame.mono (by decide) (by decide)⟩
  show Qg Z a mc h0 n0 _ T73.heap _
  rw [e73]
  exact ⟨b68, k68, rfl, N73, (((Keep.refl h0 [a]).ext E68).wr W73 (Or.inl (List.mem_of_getElem? (i := 0) rfl))), sz_b68, g_b68, f75, fw73, f76, f77, O68⟩
set_option maxRecDepth 65536 in
set_option maxHeartbeats 40000000 in
theorem rm8 (l : Launch) (Z : State) (a0 : Array Value) (hw : ∀ d ∈ tables_1, d.before a0 Z = true) (ws : List Jvm.Cond) (a da : Addr) (mc : Int32) (kd : ClassId) (h0 : Heap) (n0 : Nat) (Z0 : n0 ≤ h0.size) (E : Exa Z h0 a "java/util/ArrayList") (ga : n0 ≤ a) (F0 : Fld Z h0 a "java/util/AbstractList" "modCount" "I" (.int mc)) (F1 : Fld Z h0 a "java/util/ArrayList" "elementData" "[Ljava/lang/Object;" (.ref da)) (F2 : Fld Z h0 a "java/util/ArrayList" "size" "I" (.int (0 : Int32))) (hold : Old Z n0 h0) (hSd : Sta Z Z.heap "java/util/ArrayList" "DEFAULTCAPACITY_EMPTY_ELEMENTDATA" "[Ljava/lang/Object;" (.ref da)) (hAd : Arv Z Z.heap da kd (.object "java/lang/Object") (0 : Int32) [] .null) :
    MetFree l (⟨"java/util/ArrayList", "grow", "()[Ljava/lang/Object;"⟩ : MethodName) (head1 (Jvm.Cond.code (⟨"java/util/ArrayList", "grow", "()[Ljava/lang/Object;"⟩ : MethodName) jdk_38_method_7_code 1 (some (.array (.object "java/lang/Object"))) :: ws) ({ frames := 2, cells := 1, slots := 10, locals := 29 } : Room)) (fun aa UU => aa = #[(.ref a)] ∧ Z.Warmed39 UU.vm ∧ UU.heap = h0) (fun _ _ _ _ _ => True) (fun _ UU oo U' => ∃ v L, oo = .returned v ∧ Qg Z a mc h0 n0 v U'.heap L ∧ FrameEnd UU oo U' L ({ frames := 2, cells := 1, slots := 10, locals := 29 } : Room).cells ({ frames := 2, cells := 1, slots := 10, locals := 29 } : Room).slots) := by
  refine MetFree.of_bodySF (plainFor_of_name pn_2) hisR ?_
  intro p e s m args below meth c s₁ Bd hml0 hP hK
  obtain ⟨rfl, hZ, hh⟩ := hP
  have hx := Bd.exec
  have hby := Bd.bytes
  have hml : c.maxLocals = 1 := hml0
  have hown : s.vm.findClass "java/util/ArrayList" = some m.cls := findClass_of_methodNamed Bd.named
  have hnm := (name_of_methodNamed Bd.named Bd.method).1
  have X0 : Stand p l e ({ frames := 2, cells := 1, slots := 10, locals := 29 } : Room) s m #[(.ref a)] below meth c s₁ [] 0 0 := Stand.of_body Bd
  have e0 : s₁.heap = h0 := by rw [← hh, Bd.state]; rfl
  have N0 := Fr.nil n0
  obtain ⟨A0, hA0⟩ : ∃ A, A = s₁.setTop (entryFrame m #[(.ref a)] 1) := ⟨_, rfl⟩
  have G0 : Go p e below A0 (s₁.setTop (mkF m 0 #[.val (.ref a)] [])) := fun tq kq => by rw [hA0]; exact castTop (ef_rm8 m a) kq
  have hAd0 := hAd.ext hold.2
  have G78 : Go p e below A0 (s₁.setTop (mkF m 2 #[.val (.ref a)] [(.ref a), (.ref a)])) := fun tq kq => G0 tq (by
    refine XS.aloadN X0.here hx rfl (hb hby d8_0) rfl rfl ?_
    show Steps p.tables e below (s₁.setTop (mkF m 1 #[.val (.ref a)] [(.ref a)])) _
    refine XS.aloadN X0.here hx rfl (hb hby d8_1) rfl rfl ?_
    show Steps p.tables e below (s₁.setTop (mkF m 2 #[.val (.ref a)] [(.ref a), (.ref a)])) _
    exact kq)
  obtain ⟨T79, X79, e79, st79⟩ := getF X0 hx hZ hown (host := "") (Or.inl (hw _ (List.mem_of_getElem? (i := 60) rfl))) Via.refl e0 F2 (g := (mkF m 2 #[.val (.ref a)] [(.ref a), (.ref a)])) rfl rfl (hb hby d8_2)
  have G80 : Go p e below A0 (T79.setTop (mkF m 5 #[.val (.ref a)] [(.int (0 : Int32)), (.ref a)])) := fun tq kq => G78 tq (st79 _ kq)
  have G81 : Go p e below A0 (T79.setTop (mkF m 7 #[.val (.ref a)] [(.int (1 : Int32)), (.ref a)])) := fun tq kq => G80 tq (by
    refine XS.iconst X79.here hx rfl (hb hby d8_5) ?_
    show Steps p.tables e below (T79.setTop (mkF m 6 #[.val (.ref a)] [(.int (1 : Int32)), (.int (0 : Int32)), (.ref a)])) _
    refine XS.iadd X79.here hx rfl (hb hby d8_6) rfl ?_
    show Steps p.tables e below (T79.setTop (mkF m 7 #[.val (.ref a)] [(.int ((0 : Int32) + (1 : Int32))), (.ref a)])) _
    rw [show ((0 : Int32) + (1 : Int32)) = (1 : Int32) from (by decide : ((0 : Int32) + (1 : Int32)) = (1 : Int32))]
    show Steps p.tables e below (T79.setTop (mkF m 7 #[.val (.ref a)] [(.int (1 : Int32)), (.ref a)])) _
    exact kq)
  obtain ⟨cq82, q82, q82'⟩ := E.cell
  obtain ⟨_, _, ⟨T82, L82, k82, n82⟩, -, X82, ⟨Lc82, hQ82, l82, y82, z82⟩, st82⟩ := X79.privateBack hx (y := (⟨"java/util/ArrayList", "grow", "(I)[Ljava/lang/Object;"⟩ : MethodName)) hown (mvT hZ (hw _ (List.mem_of_getElem? (i := 72) rfl))) (mvT hZ (hw _ (List.mem_of_getElem? (i := 73) rfl))) (mvT hZ (hw _ (List.mem_of_getElem? (i := 75) rfl))) (Cond.privateMethod_at (mvP hZ (hw _ (List.mem_of_getElem? (i := 74) rfl)) (args := #[]))) (mvT hZ (hw _ (List.mem_of_getElem? (i := 76) rfl))) (by decide) (backOf (W := 0) (rm9 l Z a0 hw [] a da mc kd h0 n0 Z0 E ga F0 F1 F2 hold hSd hAd) hZ (hw _ (List.mem_of_getElem? (i := 76) rfl)) (hw _ (List.mem_of_getElem? (i := 3) rfl)) (by decide) (by decide)) (g := (mkF m 7 #[.val (.ref a)] [(.int (1 : Int32)), (.ref a)])) rfl (by rw [hml]; rfl) (Steps.refl _) (a := a) (by rw [e79]; exact q82) q82' (argsL := [(.int (1 : Int32))]) (rest := []) (lenOf pd_2 rfl) rfl (by show 2 * 0 + _ ≤ _; exact Nat.le_of_eq rfl) (hb hby d8_7) (fun _ _ => ⟨rfl, e79, (by decide : 0 + 1 ≤ _), (by decide : 0 + 10 ≤ _)⟩)
  dsimp only [Pt.U, Pt.locs, Pt.cells, Pt.slots] at X82 l82 y82 z82 st82 hQ82
  obtain rfl : k82 = 1 := y82
  obtain rfl : n82 = 10 := z82
  obtain ⟨gb82, kb82, rfl, N82q, K82, hs82, hg82, Fx82_0, Fx82_1, Fx82_2, Ab82, Ov82⟩ := hQ82
  have N82 : Fr n0 L82 := by rw [l82]; exact Fr.app N0 N82q
  have lt_a_gb82 : a < gb82 := Nat.lt_of_lt_of_le E.lt hs82
  have lt_da_gb82 : da < gb82 := Nat.lt_of_lt_of_le hAd0.lt hs82
  have sz_gb82 : h0.size ≤ gb82 := Nat.le_trans (Nat.le_refl h0.size) hs82
  have G83 : Go p e below A0 (T82.setTop (mkF m 10 #[.val (.ref a)] [(.ref gb82)])) := fun tq kq => G81 tq (st82.trans kq)
  obtain ⟨fs, hr, hrun, hended, hW, hsame⟩ := X82.leave (v := some (.ref gb82)) (fun h => by rw [Bd.returns] at h; cases h)
  refine ⟨_, _, (by rw [← hA0]; exact G83 _ (retOut X82 hx (t := (.array (.object "java/lang/Object"))) Bd.returns rfl (Or.inr (Or.inr (Or.inr (Or.inr ⟨rfl, rfl, rfl⟩)))) (hb hby d8_10) hr)), hrun, hended, _, _, rfl, ?_, ⟨_, rfl⟩, hW, hsame.mono (by decide) (by decide)⟩
  show Qg Z a mc h0 n0 _ T82.heap _
  exact ⟨gb82, kb82, rfl, N82, ((Keep.refl h0 [a]).trans K82 (allS (P := fun x => x ∈ [a] ∨ h0.size ≤ x) (Or.inl (List.mem_of_getElem? (i := 0) rfl)) all0)), sz_gb82, hg82, Fx82_0, Fx82_1, Fx82_2, Ab82, Ov82⟩
def Qa1 (Z : State) (a x : Addr) (r : Option Value) (mc : Int32) (h0 : Heap) (n0 : Nat) (v : Option Value) (h : Heap) (L : List Loc) : Prop := ∃ b kb, v = r ∧ Fr n0 L ∧ Keep h0 h [a] ∧ h0.size ≤ b ∧ n0 ≤ b ∧ Fld Z h a "java/util/AbstractList" "modCount" "I" (.int mc) ∧ Fld Z h a "java/util/ArrayList" "elementData" "[Ljava/lang/Object;" (.ref b) ∧ Fld Z h a "java/util/ArrayList" "size" "I" (.int (1 : Int32)) ∧ Arv Z h b kb (.object "java/lang/Object") (10 : Int32) [(.ref x), .null, .null, .null, .null, .null, .null, .null, .null, .null] .null ∧ Ovr Z kb "java/lang/Object"
def Qa2 (Z : State) (a b x y : Addr) (kb : ClassId) (r : Option Value) (mc : Int32) (h0 : Heap) (n0 : Nat) (v : Option Value) (h : Heap) (L : List Loc) : Prop := v = r ∧ Fr n0 L ∧ Keep h0 h [a, b] ∧ Fld Z h a "java/util/AbstractList" "modCount" "I" (.int mc) ∧ Fld Z h a "java/util/ArrayList" "elementData" "[Ljava/lang/Object;" (.ref b) ∧ Fld Z h a "java/util/ArrayList" "size" "I" (.int (2 : Int32)) ∧ Arv Z h b kb (.object "java/lang/Object") (10 : Int32) [(.ref x), (.ref y), .null, .null, .null, .null, .null, .null, .null, .null] .null
set_option maxRecDepth 65536 in
set_option maxHeartbeats 40000000 in
theorem rmA3a (l : Launch) (Z : State) (a0 : Array Value) (hw : ∀ d ∈ tables_1, d.before a0 Z = true) (ws : List Jvm.Cond) (a da x : Addr) (mc : Int32) (kd : ClassId) (h0 : Heap) (n0 : Nat) (Z0 : n0 ≤ h0.size) (E : Exa Z h0 a "java/util/ArrayList") (ga : n0 ≤ a) (F0 : Fld Z h0 a "java/util/AbstractList" "modCount" "I" (.int mc)) (F1 : Fld Z h0 a "java/util/ArrayList" "elementData" "[Ljava/lang/Object;" (.ref da)) (F2 : Fld Z h0 a "java/util/ArrayList" "size" "I" (.int (0 : Int32))) (hold : Old Z n0 h0) (hSd : Sta Z Z.heap "java/util/ArrayList" "DEFAULTCAPACITY_EMPTY_ELEMENTDATA" "[Ljava/lang/Object;" (.ref da)) (hAd : Arv Z Z.heap da kd (.object "java/lang/Object") (0 : Int32) [] .null) (Ex : Exa Z h0 x "com/example/ludarc/ludarc/engine/Variable") (hax : a ≠ x) :
    MetFree l (⟨"java/util/ArrayList", "add", "(Ljava/lang/Object;[Ljava/lang/Object;I)V"⟩ : MethodName) (head1 (Jvm.Cond.code (⟨"java/util/ArrayList", "add", "(Ljava/lang/Object;[Ljava/lang/Object;I)V"⟩ : MethodName) jdk_38_method_24_code 4 none :: ws) ({ frames := 3, cells := 1, slots := 10, locals := 41 } : Room)) (fun aa UU => aa = #[(.ref a), (.ref x), (.ref da), (.int (0 : Int32))] ∧ Z.Warmed39 UU.vm ∧ UU.heap = h0) (fun _ _ _ _ _ => True) (fun _ UU oo U' => ∃ v L, oo = .returned v ∧ Qa1 Z a x none mc h0 n0 v U'.heap L ∧ FrameEnd UU oo U' L ({ frames := 3, cells := 1, slots := 10, locals := 41 } : Room).cells ({ frames := 3, cells := 1, slots := 10, locals := 41 } : Room).slots) := by
  refine MetFree.of_bodySF (plainFor_of_name pn_2) hisR ?_
  intro p e s m args below meth c s₁ Bd hml0 hP hK
  obtain ⟨rfl, hZ, hh⟩ := hP
  have hx := Bd.exec
  have hby := Bd.bytes
  have hml : c.maxLocals = 4 := hml0
  have hown : s.vm.findClass "java/util/ArrayList" = some m.cls := findClass_of_methodNamed Bd.named
  have hnm := (name_of_methodNamed Bd.named Bd.method).1
  have X0 : Stand p l e ({ frames := 3, cells := 1, slots := 10, locals := 41 } : Room) s m #[(.ref a), (.ref x), (.ref da), (.int (0 : Int32))] below meth c s₁ [] 0 0 := Stand.of_body Bd
  have e0 : s₁.heap = h0 := by rw [← hh, Bd.state]; rfl
  have N0 := Fr.nil n0
  obtain ⟨A0, hA0⟩ : ∃ A, A = s₁.setTop (entryFrame m #[(.ref a), (.ref x), (.ref da), (.int (0 : Int32))] 4) := ⟨_, rfl⟩
  have G0 : Go p e below A0 (s₁.setTop (mkF m 0 #[.val (.ref a), .val (.ref x), .val (.ref da), .val (.int (0 : Int32))] [])) := fun tq kq => by rw [hA0]; exact castTop (ef_rmA3a m a x da (0 : Int32)) kq
  have hAd0 := hAd.ext hold.2
  have G84 : Go p e below A0 (s₁.setTop (mkF m 2 #[.val (.ref a), .val (.ref x), .val (.ref da), .val (.int (0 : Int32))] [(.ref da), (.int (0 : Int32))])) := fun tq kq => G0 tq (by
    refine XS.iloadN X0.here hx rfl (hb hby d7_0) rfl ?_
    show Steps p.tables e below (s₁.setTop (mkF m 1 #[.val (.ref a), .val (.ref x), .val (.ref da), .val (.int (0 : Int32))] [(.int (0 : Int32))])) _
    refine XS.aloadN X0.here hx rfl (hb hby d7_1) rfl rfl ?_
    show Steps p.tables e below (s₁.setTop (mkF m 2 #[.val (.ref a), .val (.ref x), .val (.ref da), .val (.int (0 : Int32))] [(.ref da), (.int (0 : Int32))])) _
    exact kq)
  obtain ⟨cl85, Ar85, q85, S85, M85, H85, Gf85⟩ := id hAd0
  have G86 : Go p e below A0 (s₁.setTop (mkF m 7 #[.val (.ref a), .val (.ref x), .val (.ref da), .val (.int (0 : Int32))] [(.ref a)])) := fun tq kq => G84 tq (by
    refine X0.arraylength hx (by rw [e0]; exact Ar85.1) (State.isArrayOf_alike hZ.alike Ar85.2.1) (g := (mkF m 2 #[.val (.ref a), .val (.ref x), .val (.ref da), .val (.int (0 : Int32))] [(.ref da), (.int (0 : Int32))])) rfl rfl (hb hby d7_2) _ ?_
    rw [len_of S85 M85]
    show Steps p.tables e below (s₁.setTop (mkF m 3 #[.val (.ref a), .val (.ref x), .val (.ref da), .val (.int (0 : Int32))] [(.int (0 : Int32)), (.int (0 : Int32))])) _
    refine XS.icmpNo X0.here hx rfl (hb hby d7_3) rfl (by decide) ?_
    show Steps p.tables e below (s₁.setTop (mkF m 6 #[.val (.ref a), .val (.ref x), .val (.ref da), .val (.int (0 : Int32))] [])) _
    refine XS.aloadN X0.here hx rfl (hb hby d7_6) rfl rfl ?_
    show Steps p.tables e below (s₁.setTop (mkF m 7 #[.val (.ref a), .val (.ref x), .val (.ref da), .val (.int (0 : Int32))] [(.ref a)])) _
    exact kq)
  obtain ⟨cq87, q87, q87'⟩ := E.cell
  obtain ⟨_, _, ⟨T87, L87, k87, n87⟩, -, X87, ⟨Lc87, hQ87, l87, y87, z87⟩, st87⟩ := X0.privateBack hx (y := (⟨"java/util/ArrayList", "grow", "()[Ljava/lang/Object;"⟩ : MethodName)) hown (mvT hZ (hw _ (List.mem_of_getElem? (i := 67) rfl))) (mvT hZ (hw _ (List.mem_of_getElem? (i := 68) rfl))) (mvT hZ (hw _ (List.mem_of_getElem? (i := 70) rfl))) (Cond.privateMethod_at (mvP hZ (hw _ (List.mem_of_getElem? (i := 69) rfl)) (args := #[]))) (mvT hZ (hw _ (List.mem_of_getElem? (i := 71) rfl))) (by decide) (backOf (W := 0) (rm8 l Z a0 hw [] a da mc kd h0 n0 Z0 E ga F0 F1 F2 hold hSd hAd) hZ (hw _ (List.mem_of_getElem? (i := 71) rfl)) (hw _ (List.mem_of_getElem? (i := 3) rfl)) (by decide) (by decide)) (g := (mkF m 7 #[.val (.ref a), .val (.ref x), .val (.ref da), .val (.int (0 : Int32))] [(.ref a)])) rfl (by rw [hml]; rfl) (Steps.refl _) (a := a) (by rw [e0]; exact q87) q87' (argsL := []) (rest := []) (lenOf pd_3 rfl) rfl (by show 2 * 0 + _ ≤ _; exact Nat.le_of_eq rfl) (hb hby d7_7) (fun _ _ => ⟨rfl, e0, (by decide : 0 + 1 ≤ _), (by decide : 0 + 10 ≤ _)⟩)
  dsimp only [Pt.U, Pt.locs, Pt.cells, Pt.slots] at X87 l87 y87 z87 st87 hQ87
  obtain rfl : k87 = 1 := y87
  obtain rfl : n87 = 10 := z87
  obtain ⟨gb87, kb87, rfl, N87q, K87, hs87, hg87, Fx87_0, Fx87_1, Fx87_2, Ab87, Ov87⟩ := hQ87
  have N87 : Fr n0 L87 := by rw [l87]; exact Fr.app N0 N87q
  have lt_a_gb87 : a < gb87 := Nat.lt_of_lt_of_le E.lt hs87
  have lt_da_gb87 : da < gb87 := Nat.lt_of_lt_of_le hAd0.lt hs87
  have lt_x_gb87 : x < gb87 := Nat.lt_of_lt_of_le Ex.lt hs87
  have sz_gb87 : h0.size ≤ gb87 := Nat.le_trans (Nat.le_refl h0.size) hs87
  have G88 : Go p e below A0 (T87.setTop (mkF m 10 #[.val (.ref a), .val (.ref x), .val (.ref da), .val (.int (0 : Int32))] [(.ref gb87)])) := fun tq kq => G86 tq (st87.trans kq)
  have G89 : Go p e below A0 (T87.setTop (mkF m 14 #[.val (.ref a), .val (.ref x), .val (.ref gb87), .val (.int (0 : Int32))] [(.ref x), (.int (0 : Int32)), (.ref gb87)])) := fun tq kq => G88 tq (by
    refine XS.astoreN X87.here hx rfl (hb hby d7_10) rfl rfl (l' := #[.val (.ref a), .val (.ref x), .val (.ref gb87), .val (.int (0 : Int32))]) rfl ?_
    show Steps p.tables e below (T87.setTop (mkF m 11 #[.val (.ref a), .val (.ref x), .val (.ref gb87), .val (.int (0 : Int32))] [])) _
    refine XS.aloadN X87.here hx rfl (hb hby d7_11) rfl rfl ?_
    show Steps p.tables e below (T87.setTop (mkF m 12 #[.val (.ref a), .val (.ref x), .val (.ref gb87), .val (.int (0 : Int32))] [(.ref gb87)])) _
    refine XS.iloadN X87.here hx rfl (hb hby d7_12) rfl ?_
    show Steps p.tables e below (T87.setTop (mkF m 13 #[.val (.ref a), .val (.ref x), .val (.ref gb87), .val (.int (0 : Int32))] [(.int (0 : Int32)), (.ref gb87)])) _
    refine XS.aloadN X87.here hx rfl (hb hby d7_13) rfl rfl ?_
    show Steps p.tables e below (T87.setTop (mkF m 14 #[.val (.ref a), .val (.ref x), .val (.ref gb87), .val (.int (0 : Int32))] [(.ref x), (.int (0 : Int32)), (.ref gb87)])) _
    exact kq)
  obtain ⟨cl90, Ar90, q90, S90, M90, H90, Gf90⟩ := id Ab87
  have hi91 : ¬ ((0 : Int32) < 0 ∨ cl90.slots.size ≤ ((0 : Int32)).toNatClampNeg) := (inb_of S90 ⟨by decide, by decide⟩)
  have f93 := (Ex.keep K87)
  obtain ⟨T92, h92, X92, e92, W92, st92⟩ := stR X87 hx hZ rfl Ar90 (j := (0 : Int32)) hi91 rfl (Sto.ofV Ar90 q90 Ov87 (Ins.of_exa f93 (hw _ (List.mem_of_getElem? (i := 83) rfl)))) (g := (mkF m 14 #[.val (.ref a), .val (.ref x), .val (.ref gb87), .val (.int (0 : Int32))] [(.ref x), (.int (0 : Int32)), (.ref gb87)])) rfl rfl (hb hby d7_14)
  have N92 := Fr.snoc X92 N87 hg87
  have V92 := Arv.set Ar90 q90 S90 M90 H90 Gf90 rfl W92 0 rfl (Nat.le_of_ble_eq_true rfl)
  have V92' : Arv Z h92 gb87 kb87 (.object "java/lang/Object") (10 : Int32) [(.ref x), .null, .null, .null, .null, .null, .null, .null, .null, .null] .null := by exact V92
  have G94 : Go p e below A0 (T92.setTop (mkF m 15 #[.val (.ref a), .val (.ref x), .val (.ref gb87), .val (.int (0 : Int32))] [])) := fun tq kq => G89 tq (st92 _ kq)
  have G95 : Go p e below A0 (T92.setTop (mkF m 19 #[.val (.ref a), .val (.ref x), .val (.ref gb87), .val (.int (0 : Int32))] [(.int (1 : Int32)), (.ref a)])) := fun tq kq => G94 tq (by
    refine XS.aloadN X92.here hx rfl (hb hby d7_15) rfl rfl ?_
    show Steps p.tables e below (T92.setTop (mkF m 16 #[.val (.ref a), .val (.ref x), .val (.ref gb87), .val (.int (0 : Int32))] [(.ref a)])) _
    refine XS.iloadN X92.here hx rfl (hb hby d7_16) rfl ?_
    show Steps p.tables e below (T92.setTop (mkF m 17 #[.val (.ref a), .val (.ref x), .val (.ref gb87), .val (.int (0 : Int32))] [(.int (0 : Int32)), (.ref a)])) _
    refine XS.iconst X92.here hx rfl (hb hby d7_17) ?_
    show Steps p.tables e below (T92.setTop (mkF m 18 #[.val (.ref a), .val (.ref x), .val (.ref gb87), .val (.int (0 : Int32))] [(.int (1 : Int32)), (.int (0 : Int32)), (.ref a)])) _
    refine XS.iadd X92.here hx rfl (hb hby d7_18) rfl ?_
    show Steps p.tables e below (T92.setTop (mkF m 19 #[.val (.ref a), .val (.ref x), .val (.ref gb87), .val (.int (0 : Int32))] [(.int ((0 : Int32) + (1 : Int32))), (.ref a)])) _
    rw [show ((0 : Int32) + (1 : Int32)) = (1 : Int32) from (by decide : ((0 : Int32) + (1 : Int32)) = (1 : Int32))]
    show Steps p.tables e below (T92.setTop (mkF m 19 #[.val (.ref a), .val (.ref x), .val (.ref gb87), .val (.int (0 : Int32))] [(.int (1 : Int32)), (.ref a)])) _
    exact kq)
  have f96 := ((E.keep K87).wr W92)
  have f97 := (Fx87_2.other W92 (Or.inl (Nat.ne_of_lt lt_a_gb87)))
  obtain ⟨T98, h98, X98, e98, W98, st98⟩ := putF X92 hx hZ hown (host := "") (Or.inl (hw _ (List.mem_of_getElem? (i := 60) rfl))) Via.refl e92 f97 f96 (Or.inl (hw _ (List.mem_of_getElem? (i := 61) rfl))) (hw _ (List.mem_of_getElem? (i := 2) rfl)) (ty := .int) (by decide) rfl rfl (g := (mkF m 19 #[.val (.ref a), .val (.ref x), .val (.ref gb87), .val (.int (0 : Int32))] [(.int (1 : Int32)), (.ref a)])) rfl rfl (hb hby d7_19)
  have N98 := Fr.snoc X98 N92 ga
  have fw98 := f97.same W98
  have G99 : Go p e below A0 (T98.setTop (mkF m 22 #[.val (.ref a), .val (.ref x), .val (.ref gb87), .val (.int (0 : Int32))] [])) := fun tq kq => G95 tq (st98 _ kq)
  have f100 := ((Fx87_0.other W92 (Or.inl (Nat.ne_of_lt lt_a_gb87))).other W98 (Or.inr (slot_ne (Or.inl (hw _ (List.mem_of_getElem? (i := 23) rfl))) (Or.inl (hw _ (List.mem_of_getElem? (i := 61) rfl))) (by decide) (t := .int) (t' := .int) (by decide) (by decide))))
  have f101 := ((Fx87_1.other W92 (Or.inl (Nat.ne_of_lt lt_a_gb87))).other W98 (Or.inr (slot_ne (Or.inl (hw _ (List.mem_of_getElem? (i := 26) rfl))) (Or.inl (hw _ (List.mem_of_getElem? (i := 61) rfl))) (by decide) (t := (.array (.object "java/lang/Object"))) (t' := .int) (by decide) (by decide))))
  have f102 := (V92'.other W98 (Ne.symm (Nat.ne_of_lt lt_a_gb87)))
  obtain ⟨fs, hr, hrun, hended, hW, hsame⟩ := X98.leave (v := none) (fun _ => rfl)
  refine ⟨_, _, (by rw [← hA0]; exact G99 _ (X98.returnOut hx Bd.returns (hb hby d7_22) hr)), hrun, hended, _, _, rfl, ?_, ⟨_, rfl⟩, hW, hsame.mono (by decide) (by decide)⟩
  show Qa1 Z a x none mc h0 n0 _ T98.heap _
  rw [e98]
  exact ⟨gb87, kb87, rfl, N98, ((((Keep.refl h0 [a]).trans K87 (allS (P := fun x => x ∈ [a] ∨ h0.size ≤ x) (Or.inl (List.mem_of_getElem? (i := 0) rfl)) all0)).wr W92 (Or.inr sz_gb87)).wr W98 (Or.inl (List.mem_of_getElem? (i := 0) rfl))), sz_gb87, hg87, f100, f101, fw98, f102, Ov87⟩
set_option maxRecDepth 65536 in
set_option maxHeartbeats 40000000 in
theorem rmA3b (l : Launch) (Z : State) (a0 : Array Value) (hw : ∀ d ∈ tables_1, d.before a0 Z = true) (ws : List Jvm.Cond) (a b x y : Addr) (mc : Int32) (kb : ClassId) (h0 : Heap) (n0 : Nat) (Z0 : n0 ≤ h0.size) (E : Exa Z h0 a "java/util/ArrayList") (ga : n0 ≤ a) (F0 : Fld Z h0 a "java/util/AbstractList" "modCount" "I" (.int mc)) (F1 : Fld Z h0 a "java/util/ArrayList" "elementData" "[Ljava/lang/Object;" (.ref b)) (F2 : Fld Z h0 a "java/util/ArrayList" "size" "I" (.int (1 : Int32))) (A : Arv Z h0 b kb (.object "java/lang/Object") (10 : Int32) [(.ref x), .null, .null, .null, .null, .null, .null, .null, .null, .null] .null) (Ov : Ovr Z kb "java/lang/Object") (gb : n0 ≤ b) (hab : a ≠ b) (Ey : Exa Z h0 y "com/example/ludarc/ludarc/engine/Variable") :
    MetFree l (⟨"java/util/ArrayList", "add", "(Ljava/lang/Object;[Ljava/lang/Object;I)V"⟩ : MethodName) (head1 (Jvm.Cond.code (⟨"java/util/ArrayList", "add", "(Ljava/lang/Object;[Ljava/lang/Object;I)V"⟩ : MethodName) jdk_38_method_24_code 4 none :: ws) ({ frames := 0, cells := 0, slots := 0, locals := 0 } : Room)) (fun aa UU => aa = #[(.ref a), (.ref y), (.ref b), (.int (1 : Int32))] ∧ Z.Warmed39 UU.vm ∧ UU.heap = h0) (fun _ _ _ _ _ => True) (fun _ UU oo U' => ∃ v L, oo = .returned v ∧ Qa2 Z a b x y kb none mc h0 n0 v U'.heap L ∧ FrameEnd UU oo U' L ({ frames := 0, cells := 0, slots := 0, locals := 0 } : Room).cells ({ frames := 0, cells := 0, slots := 0, locals := 0 } : Room).slots) := by
  refine MetFree.of_bodySF (plainFor_of_name pn_2) hisR ?_
  intro p e s m args below meth c s₁ Bd hml0 hP hK
  obtain ⟨rfl, hZ, hh⟩ := hP
  have hx := Bd.exec
  have hby := Bd.bytes
  have hml : c.maxLocals = 4 := hml0
  have hown : s.vm.findClass "java/util/ArrayList" = some m.cls := findClass_of_methodNamed Bd.named
  have hnm := (name_of_methodNamed Bd.named Bd.method).1
  have X0 : Stand p l e ({ frames := 0, cells := 0, slots := 0, locals := 0 } : Room) s m #[(.ref a), (.ref y), (.ref b), (.int (1 : Int32))] below meth c s₁ [] 0 0 := Stand.of_body Bd
  have e0 : s₁.heap = h0 := by rw [← hh, Bd.state]; rfl
  have N0 := Fr.nil n0
  obtain ⟨A0, hA0⟩ : ∃ A, A = s₁.setTop (entryFrame m #[(.ref a), (.ref y), (.ref b), (.int (1 : Int32))] 4) := ⟨_, rfl⟩
  have G0 : Go p e below A0 (s₁.setTop (mkF m 0 #[.val (.ref a), .val (.ref y), .val (.ref b), .val (.int (1 : Int32))] [])) := fun tq kq => by rw [hA0]; exact castTop (ef_rmA3b m a y b (1 : Int32)) kq
  have G103 : Go p e below A0 (s₁.setTop (mkF m 2 #[.val (.ref a), .val (.ref y), .val (.ref b), .val (.int (1 : Int32))] [(.ref b), (.int (1 : Int32))])) := fun tq kq => G0 tq (by
    refine XS.iloadN X0.here hx rfl (hb hby d7_0) rfl ?_
    show Steps p.tables e below (s₁.setTop (mkF m 1 #[.val (.ref a), .val (.ref y), .val (.ref b), .val (.int (1 : Int32))] [(.int (1 : Int32))])) _
    refine XS.aloadN X0.here hx rfl (hb hby d7_1) rfl rfl ?_
    show Steps p.tables e below (s₁.setTop (mkF m 2 #[.val (.ref a), .val (.ref y), .val (.ref b), .val (.int (1 : Int32))] [(.ref b), (.int (1 : Int32))])) _
    exact kq)
  obtain ⟨cl104, Ar104, q104, S104, M104, H104, Gf104⟩ := id A
  have G105 : Go p e below A0 (s₁.setTop (mkF m 14 #[.val (.ref a), .val (.ref y), .val (.ref b), .val (.int (1 : Int32))] [(.ref y), (.int (1 : Int32)), (.ref b)])) := fun tq kq => G103 tq (by
    refine X0.arraylength hx (by rw [e0]; exact Ar104.1) (State.isArrayOf_alike hZ.alike Ar104.2.1) (g := (mkF m 2 #[.val (.ref a), .val (.ref y), .val (.ref b), .val (.int (1 : Int32))] [(.ref b), (.int (1 : Int32))])) rfl rfl (hb hby d7_2) _ ?_
    rw [len_of S104 M104]
    show Steps p.tables e below (s₁.setTop (mkF m 3 #[.val (.ref a), .val (.ref y), .val (.ref b), .val (.int (1 : Int32))] [(.int (10 : Int32)), (.int (1 : Int32))])) _
    refine XS.icmpYes X0.here hx rfl (pc0 := 3) (pc' := 11) rfl (hb hby d7_3) rfl (by decide) (by decide) (by decide) ?_
    show Steps p.tables e below (s₁.setTop (mkF m 11 #[.val (.ref a), .val (.ref y), .val (.ref b), .val (.int (1 : Int32))] [])) _
    refine XS.aloadN X0.here hx rfl (hb hby d7_11) rfl rfl ?_
    show Steps p.tables e below (s₁.setTop (mkF m 12 #[.val (.ref a), .val (.ref y), .val (.ref b), .val (.int (1 : Int32))] [(.ref b)])) _
    refine XS.iloadN X0.here hx rfl (hb hby d7_12) rfl ?_
    show Steps p.tables e below (s₁.setTop (mkF m 13 #[.val (.ref a), .val (.ref y), .val (.ref b), .val (.int (1 : Int32))] [(.int (1 : Int32)), (.ref b)])) _
    refine XS.aloadN X0.here hx rfl (hb hby d7_13) rfl rfl ?_
    show Steps p.tables e below (s₁.setTop (mkF m 14 #[.val (.ref a), .val (.ref y), .val (.ref b), .val (.int (1 : Int32))] [(.ref y), (.int (1 : Int32)), (.ref b)])) _
    exact kq)
  obtain ⟨cl106, Ar106, q106, S106, M106, H106, Gf106⟩ := id A
  have hi107 : ¬ ((1 : Int32) < 0 ∨ cl106.slots.size ≤ ((1 : Int32)).toNatClampNeg) := (inb_of S106 ⟨by decide, by decide⟩)
  obtain ⟨T108, h108, X108, e108, W108, st108⟩ := stR X0 hx hZ e0 Ar106 (j := (1 : Int32)) hi107 rfl (Sto.ofV Ar106 q106 Ov (Ins.of_exa Ey (hw _ (List.mem_of_getElem? (i := 83) rfl)))) (g := (mkF m 14 #[.val (.ref a), .val (.ref y), .val (.ref b), .val (.int (1 : Int32))] [(.ref y), (.int (1 : Int32)), (.ref b)])) rfl rfl (hb hby d7_14)
  have N108 := Fr.snoc X108 N0 gb
  have V108 := Arv.set Ar106 q106 S106 M106 H106 Gf106 rfl W108 1 rfl (Nat.le_of_ble_eq_true rfl)
  have V108' : Arv Z h108 b kb (.object "java/lang/Object") (10 : Int32) [(.ref x), (.ref y), .null, .null, .null, .null, .null, .null, .null, .null] .null := by exact V108
  have G109 : Go p e below A0 (T108.setTop (mkF m 15 #[.val (.ref a), .val (.ref y), .val (.ref b), .val (.int (1 : Int32))] [])) := fun tq kq => G105 tq (st108 _ kq)
  have G110 : Go p e below A0 (T108.setTop (mkF m 19 #[.val (.ref a), .val (.ref y), .val (.ref b), .val (.int (1 : Int32))] [(.int (2 : Int32)), (.ref a)])) := fun tq kq => G109 tq (by
    refine XS.aloadN X108.here hx rfl (hb hby d7_15) rfl rfl ?_
    show Steps p.tables e below (T108.setTop (mkF m 16 #[.val (.ref a), .val (.ref y), .val (.ref b), .val (.int (1 : Int32))] [(.ref a)])) _
    refine XS.iloadN X108.here hx rfl (hb hby d7_16) rfl ?_
    show Steps p.tables e below (T108.setTop (mkF m 17 #[.val (.ref a), .val (.ref y), .val (.ref b), .val (.int (1 : Int32))] [(.int (1 : Int32)), (.ref a)])) _
    refine XS.iconst X108.here hx rfl (hb hby d7_17) ?_
    show Steps p.tables e below (T108.setTop (mkF m 18 #[.val (.ref a), .val (.ref y), .val (.ref b), .val (.int (1 : Int32))] [(.int (1 : Int32)), (.int (1 : Int32)), (.ref a)])) _
    refine XS.iadd X108.here hx rfl (hb hby d7_18) rfl ?_
    show Steps p.tables e below (T108.setTop (mkF m 19 #[.val (.ref a), .val (.ref y), .val (.ref b), .val (.int (1 : Int32))] [(.int ((1 : Int32) + (1 : Int32))), (.ref a)])) _
    rw [show ((1 : Int32) + (1 : Int32)) = (2 : Int32) from (by decide : ((1 : Int32) + (1 : Int32)) = (2 : Int32))]
    show Steps p.tables e below (T108.setTop (mkF m 19 #[.val (.ref a), .val (.ref y), .val (.ref b), .val (.int (1 : Int32))] [(.int (2 : Int32)), (.ref a)])) _
    exact kq)
  have f111 := (E.wr W108)
  have f112 := (F2.other W108 (Or.inl hab))
  obtain ⟨T113, h113, X113, e113, W113, st113⟩ := putF X108 hx hZ hown (host := "") (Or.inl (hw _ (List.mem_of_getElem? (i := 60) rfl))) Via.refl e108 f112 f111 (Or.inl (hw _ (List.mem_of_getElem? (i := 61) rfl))) (hw _ (List.mem_of_getElem? (i := 2) rfl)) (ty := .int) (by decide) rfl rfl (g := (mkF m 19 #[.val (.ref a), .val (.ref y), .val (.ref b), .val (.int (1 : Int32))] [(.int (2 : Int32)), (.ref a)])) rfl rfl (hb hby d7_19)
  have N113 := Fr.snoc X113 N108 ga
  have fw113 := f112.same W113
  have G114 : Go p e below A0 (T113.setTop (mkF m 22 #[.val (.ref a), .val (.ref y), .val (.ref b), .val (.int (1 : Int32))] [])) := fun tq kq => G110 tq (st113 _ kq)
  have f115 := ((F0.other W108 (Or.inl hab)).other W113 (Or.inr (slot_ne (Or.inl (hw _ (List.mem_of_getElem? (i := 23) rfl))) (Or.inl (hw _ (List.mem_of_getElem? (i := 61) rfl))) (by decide) (t := .int) (t' := .int) (by decide) (by decide))))
  have f116 := ((F1.other W108 (Or.inl hab)).other W113 (Or.inr (slot_ne (Or.inl (hw _ (List.mem_of_getElem? (i := 26) rfl))) (Or.inl (hw _ (List.mem_of_getElem? (i := 61) rfl))) (by decide) (t := (.array (.object "java/lang/Object"))) (t' := .int) (by decide) (by decide))))
  have f117 := (V108'.other W113 (Ne.symm hab))
  obtain ⟨fs, hr, hrun, hended, hW, hsame⟩ := X113.leave (v := none) (fun _ => rfl)
  refine ⟨_, _, (by rw [← hA0]; exact G114 _ (X113.returnOut hx Bd.returns (hb hby d7_22) hr)), hrun, hended, _, _, rfl, ?_, ⟨_, rfl⟩, hW, hsame.mono (by decide) (by decide)⟩
  show Qa2 Z a b x y kb none mc h0 n0 _ T113.heap _
  rw [e113]
  exact ⟨rfl, N113, (((Keep.refl h0 [a, b]).wr W108 (Or.inl (List.mem_of_getElem? (i := 1) rfl))).wr W113 (Or.inl (List.mem_of_getElem? (i := 0) rfl))), f115, f116, fw113, f117⟩
set_option maxRecDepth 65536 in
set_option maxHeartbeats 40000000 in
theorem rmA1a (l : Launch) (Z : State) (a0 : Array Value) (hw : ∀ d ∈ tables_1, d.before a0 Z = true) (ws : List Jvm.Cond) (a da x : Addr) (mc : Int32) (kd : ClassId) (h0 : Heap) (n0 : Nat) (Z0 : n0 ≤ h0.size) (E : Exa Z h0 a "java/util/ArrayList") (ga : n0 ≤ a) (F0 : Fld Z h0 a "java/util/AbstractList" "modCount" "I" (.int mc)) (F1 : Fld Z h0 a "java/util/ArrayList" "elementData" "[Ljava/lang/Object;" (.ref da)) (F2 : Fld Z h0 a "java/util/ArrayList" "size" "I" (.int (0 : Int32))) (hold : Old Z n0 h0) (hSd : Sta Z Z.heap "java/util/ArrayList" "DEFAULTCAPACITY_EMPTY_ELEMENTDATA" "[Ljava/lang/Object;" (.ref da)) (hAd : Arv Z Z.heap da kd (.object "java/lang/Object") (0 : Int32) [] .null) (Ex : Exa Z h0 x "com/example/ludarc/ludarc/engine/Variable") (hax : a ≠ x) :
    MetFree l (⟨"java/util/ArrayList", "add", "(Ljava/lang/Object;)Z"⟩ : MethodName) (head1 (Jvm.Cond.code (⟨"java/util/ArrayList", "add", "(Ljava/lang/Object;)Z"⟩ : MethodName) jdk_38_method_25_code 2 (some .boolean) :: ws) ({ frames := 4, cells := 1, slots := 10, locals := 56 } : Room)) (fun aa UU => aa = #[(.ref a), (.ref x)] ∧ Z.Warmed39 UU.vm ∧ UU.heap = h0) (fun _ _ _ _ _ => True) (fun _ UU oo U' => ∃ v L, oo = .returned v ∧ Qa1 Z a x (some (.int 1)) (mc + (1 : Int32)) h0 n0 v U'.heap L ∧ FrameEnd UU oo U' L ({ frames := 4, cells := 1, slots := 10, locals := 56 } : Room).cells ({ frames := 4, cells := 1, slots := 10, locals := 56 } : Room).slots) := by
  refine MetFree.of_bodySF (plainFor_of_name pn_2) hisR ?_
  intro p e s m args below meth c s₁ Bd hml0 hP hK
  obtain ⟨rfl, hZ, hh⟩ := hP
  have hx := Bd.exec
  have hby := Bd.bytes
  have hml : c.maxLocals = 2 := hml0
  have hown : s.vm.findClass "java/util/ArrayList" = some m.cls := findClass_of_methodNamed Bd.named
  have hnm := (name_of_methodNamed Bd.named Bd.method).1
  have X0 : Stand p l e ({ frames := 4, cells := 1, slots := 10, locals := 56 } : Room) s m #[(.ref a), (.ref x)] below meth c s₁ [] 0 0 := Stand.of_body Bd
  have e0 : s₁.heap = h0 := by rw [← hh, Bd.state]; rfl
  have N0 := Fr.nil n0
  obtain ⟨A0, hA0⟩ : ∃ A, A = s₁.setTop (entryFrame m #[(.ref a), (.ref x)] 2) := ⟨_, rfl⟩
  have G0 : Go p e below A0 (s₁.setTop (mkF m 0 #[.val (.ref a), .val (.ref x)] [])) := fun tq kq => by rw [hA0]; exact castTop (ef_rmA1a m a x) kq
  have hAd0 := hAd.ext hold.2
  have G118 : Go p e below A0 (s₁.setTop (mkF m 2 #[.val (.ref a), .val (.ref x)] [(.ref a), (.ref a)])) := fun tq kq => G0 tq (by
    refine XS.aloadN X0.here hx rfl (hb hby d6_0) rfl rfl ?_
    show Steps p.tables e below (s₁.setTop (mkF m 1 #[.val (.ref a), .val (.ref x)] [(.ref a)])) _
    refine XS.dup X0.here hx rfl (hb hby d6_1) rfl rfl ?_
    show Steps p.tables e below (s₁.setTop (mkF m 2 #[.val (.ref a), .val (.ref x)] [(.ref a), (.ref a)])) _
    exact kq)
  obtain ⟨T119, X119, e119, st119⟩ := getF X0 hx hZ hown (host := "") (Or.inl (hw _ (List.mem_of_getElem? (i := 58) rfl))) (Via.of (hw _ (List.mem_of_getElem? (i := 59) rfl))) e0 F0 (g := (mkF m 2 #[.val (.ref a), .val (.ref x)] [(.ref a), (.ref a)])) rfl rfl (hb hby d6_2)
  have G120 : Go p e below A0 (T119.setTop (mkF m 5 #[.val (.ref a), .val (.ref x)] [(.int mc), (.ref a)])) := fun tq kq => G118 tq (st119 _ kq)
  have G121 : Go p e below A0 (T119.setTop (mkF m 7 #[.val (.ref a), .val (.ref x)] [(.int (mc + (1 : Int32))), (.ref a)])) := fun tq kq => G120 tq (by
    refine XS.iconst X119.here hx rfl (hb hby d6_5) ?_
    show Steps p.tables e below (T119.setTop (mkF m 6 #[.val (.ref a), .val (.ref x)] [(.int (1 : Int32)), (.int mc), (.ref a)])) _
    refine XS.iadd X119.here hx rfl (hb hby d6_6) rfl ?_
    show Steps p.tables e below (T119.setTop (mkF m 7 #[.val (.ref a), .val (.ref x)] [(.int (mc + (1 : Int32))), (.ref a)])) _
    exact kq)
  obtain ⟨T122, h122, X122, e122, W122, st122⟩ := putF X119 hx hZ hown (host := "") (Or.inl (hw _ (List.mem_of_getElem? (i := 58) rfl))) (Via.of (hw _ (List.mem_of_getElem? (i := 59) rfl))) e119 F0 E (Or.inl (hw _ (List.mem_of_getElem? (i := 23) rfl))) (hw _ (List.mem_of_getElem? (i := 2) rfl)) (ty := .int) (by decide) rfl rfl (g := (mkF m 7 #[.val (.ref a), .val (.ref x)] [(.int (mc + (1 : Int32))), (.ref a)])) rfl rfl (hb hby d6_7)
  have N122 := Fr.snoc X122 N0 ga
  have fw122 := F0.same W122
  have G123 : Go p e below A0 (T122.setTop (mkF m 10 #[.val (.ref a), .val (.ref x)] [])) := fun tq kq => G121 tq (st122 _ kq)
  have G124 : Go p e below A0 (T122.setTop (mkF m 13 #[.val (.ref a), .val (.ref x)] [(.ref a), (.ref x), (.ref a)])) := fun tq kq => G123 tq (by
    refine XS.aloadN X122.here hx rfl (hb hby d6_10) rfl rfl ?_
    show Steps p.tables e below (T122.setTop (mkF m 11 #[.val (.ref a), .val (.ref x)] [(.ref a)])) _
    refine XS.aloadN X122.here hx rfl (hb hby d6_11) rfl rfl ?_
    show Steps p.tables e below (T122.setTop (mkF m 12 #[.val (.ref a), .val (.ref x)] [(.ref x), (.ref a)])) _
    refine XS.aloadN X122.here hx rfl (hb hby d6_12) rfl rfl ?_
    show Steps p.tables e below (T122.setTop (mkF m 13 #[.val (.ref a), .val (.ref x)] [(.ref a), (.ref x), (.ref a)])) _
    exact kq)
  have f125 := (F1.other W122 (Or.inr (slot_ne (Or.inl (hw _ (List.mem_of_getElem? (i := 26) rfl))) (Or.inl (hw _ (List.mem_of_getElem? (i := 23) rfl))) (by decide) (t := (.array (.object "java/lang/Object"))) (t' := .int) (by decide) (by decide))))
  obtain ⟨T126, X126, e126, st126⟩ := getF X122 hx hZ hown (host := "") (Or.inl (hw _ (List.mem_of_getElem? (i := 25) rfl))) Via.refl e122 f125 (g := (mkF m 13 #[.val (.ref a), .val (.ref x)] [(.ref a), (.ref x), (.ref a)])) rfl rfl (hb hby d6_13)
  have G127 : Go p e below A0 (T126.setTop (mkF m 16 #[.val (.ref a), .val (.ref x)] [(.ref da), (.ref x), (.ref a)])) := fun tq kq => G124 tq (st126 _ kq)
  have G128 : Go p e below A0 (T126.setTop (mkF m 17 #[.val (.ref a), .val (.ref x)] [(.ref a), (.ref da), (.ref x), (.ref a)])) := fun tq kq => G127 tq (by
    refine XS.aloadN X126.here hx rfl (hb hby d6_16) rfl rfl ?_
    show Steps p.tables e below (T126.setTop (mkF m 17 #[.val (.ref a), .val (.ref x)] [(.ref a), (.ref da), (.ref x), (.ref a)])) _
    exact kq)
  have f129 := (F2.other W122 (Or.inr (slot_ne (Or.inl (hw _ (List.mem_of_getElem? (i := 61) rfl))) (Or.inl (hw _ (List.mem_of_getElem? (i := 23) rfl))) (by decide) (t := .int) (t' := .int) (by decide) (by decide))))
  obtain ⟨T130, X130, e130, st130⟩ := getF X126 hx hZ hown (host := "") (Or.inl (hw _ (List.mem_of_getElem? (i := 60) rfl))) Via.refl e126 f129 (g := (mkF m 17 #[.val (.ref a), .val (.ref x)] [(.ref a), (.ref da), (.ref x), (.ref a)])) rfl rfl (hb hby d6_17)
  have G131 : Go p e below A0 (T130.setTop (mkF m 20 #[.val (.ref a), .val (.ref x)] [(.int (0 : Int32)), (.ref da), (.ref x), (.ref a)])) := fun tq kq => G128 tq (st130 _ kq)
  have f133 := (Nat.le_trans Z0 (Keep.of_wr W122).1)
  have f134 := (E.wr W122)
  have f135 := (Ex.wr W122)
  have f136 := (hold.wr W122 ga)
  have f137 := (Nat.le_trans (Nat.le_refl h0.size) (Keep.of_wr W122).1)
  obtain ⟨cq132, q132, q132'⟩ := f134.cell
  obtain ⟨_, _, ⟨T132, L132, k132, n132⟩, -, X132, ⟨Lc132, hQ132, l132, y132, z132⟩, st132⟩ := X130.privateBack hx (y := (⟨"java/util/ArrayList", "add", "(Ljava/lang/Object;[Ljava/lang/Object;I)V"⟩ : MethodName)) hown (mvT hZ (hw _ (List.mem_of_getElem? (i := 62) rfl))) (mvT hZ (hw _ (List.mem_of_getElem? (i := 63) rfl))) (mvT hZ (hw _ (List.mem_of_getElem? (i := 65) rfl))) (Cond.privateMethod_at (mvP hZ (hw _ (List.mem_of_getElem? (i := 64) rfl)) (args := #[]))) (mvT hZ (hw _ (List.mem_of_getElem? (i := 66) rfl))) (by decide) (backOf (W := 0) (rmA3a l Z a0 hw [] a da x (mc + (1 : Int32)) kd h122 n0 f133 f134 ga fw122 f125 f129 f136 hSd hAd f135 hax) hZ (hw _ (List.mem_of_getElem? (i := 66) rfl)) (hw _ (List.mem_of_getElem? (i := 3) rfl)) (by decide) (by decide)) (g := (mkF m 20 #[.val (.ref a), .val (.ref x)] [(.int (0 : Int32)), (.ref da), (.ref x), (.ref a)])) rfl (by rw [hml]; rfl) (Steps.refl _) (a := a) (by rw [e130]; exact q132) q132' (argsL := [(.ref x), (.ref da), (.int (0 : Int32))]) (rest := []) (lenOf pd_4 rfl) rfl (by show 2 * 0 + _ ≤ _; exact Nat.le_of_eq rfl) (hb hby d6_20) (fun _ _ => ⟨rfl, e130, (by decide : 0 + 1 ≤ _), (by decide : 0 + 10 ≤ _)⟩)
  dsimp only [Pt.U, Pt.locs, Pt.cells, Pt.slots] at X132 l132 y132 z132 st132 hQ132
  obtain rfl : k132 = 1 := y132
  obtain rfl : n132 = 10 := z132
  obtain ⟨gb132, kb132, rfl, N132q, K132, hs132, hg132, Fx132_0, Fx132_1, Fx132_2, Ab132, Ov132⟩ := hQ132
  have N132 : Fr n0 L132 := by rw [l132]; exact Fr.app N122 N132q
  have lt_a_gb132 : a < gb132 := Nat.lt_of_lt_of_le f134.lt hs132
  have lt_da_gb132 : da < gb132 := Nat.lt_of_lt_of_le (hAd0.other W122 (hold.ne hAd.lt ga)).lt hs132
  have lt_x_gb132 : x < gb132 := Nat.lt_of_lt_of_le f135.lt hs132
  have Fx132_0x : Fld Z T132.heap a "java/util/AbstractList" "modCount" "I" (.int (mc + (1 : Int32))) := Fx132_0
  have sz_gb132 : h0.size ≤ gb132 := Nat.le_trans f137 hs132
  have G138 : Go p e below A0 (T132.setTop (mkF m 23 #[.val (.ref a), .val (.ref x)] [])) := fun tq kq => G131 tq (st132.trans kq)
  have G139 : Go p e below A0 (T132.setTop (mkF m 24 #[.val (.ref a), .val (.ref x)] [(.int (1 : Int32))])) := fun tq kq => G138 tq (by
    refine XS.iconst X132.here hx rfl (hb hby d6_23) ?_
    show Steps p.tables e below (T132.setTop (mkF m 24 #[.val (.ref a), .val (.ref x)] [(.int (1 : Int32))])) _
    exact kq)
  obtain ⟨fs, hr, hrun, hended, hW, hsame⟩ := X132.leave (v := some (.int (nar .boolean (1 : Int32)))) (fun h => by rw [Bd.returns] at h; cases h)
  refine ⟨_, _, (by rw [← hA0]; exact G139 _ (retN X132 hx (t := .boolean) Bd.returns (by simp) (hb hby d6_24) hr)), hrun, hended, _, _, rfl, ?_, ⟨_, rfl⟩, hW, hsame.mono (by decide) (by decide)⟩
  show Qa1 Z a x (some (.int 1)) (mc + (1 : Int32)) h0 n0 _ T132.heap _
  exact ⟨gb132, kb132, rfl, N132, (((Keep.refl h0 [a]).wr W122 (Or.inl (List.mem_of_getElem? (i := 0) rfl))).trans K132 (allS (P := fun x => x ∈ [a] ∨ h0.size ≤ x) (Or.inl (List.mem_of_getElem? (i := 0) rfl)) all0)), sz_gb132, hg132, Fx132_0x, Fx132_1, Fx132_2, Ab132, Ov132⟩
set_option maxRecDepth 65536 in
set_option maxHeartbeats 40000000 in
theorem rmA1b (l : Launch) (Z : State) (a0 : Array Value) (hw : ∀ d ∈ tables_1, d.before a0 Z = true) (ws : List Jvm.Cond) (a b x y : Addr) (mc : Int32) (kb : ClassId) (h0 : Heap) (n0 : Nat) (Z0 : n0 ≤ h0.size) (E : Exa Z h0 a "java/util/ArrayList") (ga : n0 ≤ a) (F0 : Fld Z h0 a "java/util/AbstractList" "modCount" "I" (.int mc)) (F1 : Fld Z h0 a "java/util/ArrayList" "elementData" "[Ljava/lang/Object;" (.ref b)) (F2 : Fld Z h0 a "java/util/ArrayList" "size" "I" (.int (1 : Int32))) (A : Arv Z h0 b kb (.object "java/lang/Object") (10 : Int32) [(.ref x), .null, .null, .null, .null, .null, .null, .null, .null, .null] .null) (Ov : Ovr Z kb "java/lang/Object") (gb : n0 ≤ b) (hab : a ≠ b) (Ey : Exa Z h0 y "com/example/ludarc/ludarc/engine/Variable") :
    MetFree l (⟨"java/util/ArrayList", "add", "(Ljava/lang/Object;)Z"⟩ : MethodName) (head1 (Jvm.Cond.code (⟨"java/util/ArrayList", "add", "(Ljava/lang/Object;)Z"⟩ : MethodName) jdk_38_method_25_code 2 (some .boolean) :: ws) ({ frames := 1, cells := 0, slots := 0, locals := 15 } : Room)) (fun aa UU => aa = #[(.ref a), (.ref y)] ∧ Z.Warmed39 UU.vm ∧ UU.heap = h0) (fun _ _ _ _ _ => True) (fun _ UU oo U' => ∃ v L, oo = .returned v ∧ Qa2 Z a b x y kb (some (.int 1)) (mc + (1 : Int32)) h0 n0 v U'.heap L ∧ FrameEnd UU oo U' L ({ frames := 1, cells := 0, slots := 0, locals := 15 } : Room).cells ({ frames := 1, cells := 0, slots := 0, locals := 15 } : Room).slots) := by
  refine MetFree.of_bodySF (plainFor_of_name pn_2) hisR ?_
  intro p e s m args below meth c s₁ Bd hml0 hP hK
  obtain ⟨rfl, hZ, hh⟩ := hP
  have hx := Bd.exec
  have hby := Bd.bytes
  have hml : c.maxLocals = 2 := hml0
  have hown : s.vm.findClass "java/util/ArrayList" = some m.cls := findClass_of_methodNamed Bd.named
  have hnm := (name_of_methodNamed Bd.named Bd.method).1
  have X0 : Stand p l e ({ frames := 1, cells := 0, slots := 0, locals := 15 } : Room) s m #[(.ref a), (.ref y)] below meth c s₁ [] 0 0 := Stand.of_body Bd
  have e0 : s₁.heap = h0 := by rw [← hh, Bd.state]; rfl
  have N0 := Fr.nil n0
  obtain ⟨A0, hA0⟩ : ∃ A, A = s₁.setTop (entryFrame m #[(.ref a), (.ref y)] 2) := ⟨_, rfl⟩
  have G0 : Go p e below A0 (s₁.setTop (mkF m 0 #[.val (.ref a), .val (.ref y)] [])) := fun tq kq => by rw [hA0]; exact castTop (ef_rmA1b m a y) kq
  have G140 : Go p e below A0 (s₁.setTop (mkF m 2 #[.val (.ref a), .val (.ref y)] [(.ref a), (.ref a)])) := fun tq kq => G0 tq (by
    refine XS.aloadN X0.here hx rfl (hb hby d6_0) rfl rfl ?_
    show Steps p.tables e below (s₁.setTop (mkF m 1 #[.val (.ref a), .val (.ref y)] [(.ref a)])) _
    refine XS.dup X0.here hx rfl (hb hby d6_1) rfl rfl ?_
    show Steps p.tables e below (s₁.setTop (mkF m 2 #[.val (.ref a), .val (.ref y)] [(.ref a), (.ref a)])) _
    exact kq)
  obtain ⟨T141, X141, e141, st141⟩ := getF X0 hx hZ hown (host := "") (Or.inl (hw _ (List.mem_of_getElem? (i := 58) rfl))) (Via.of (hw _ (List.mem_of_getElem? (i := 59) rfl))) e0 F0 (g := (mkF m 2 #[.val (.ref a), .val (.ref y)] [(.ref a), (.ref a)])) rfl rfl (hb hby d6_2)
  have G142 : Go p e below A0 (T141.setTop (mkF m 5 #[.val (.ref a), .val (.ref y)] [(.int mc), (.ref a)])) := fun tq kq => G140 tq (st141 _ kq)
  have G143 : Go p e below A0 (T141.setTop (mkF m 7 #[.val (.ref a), .val (.ref y)] [(.int (mc + (1 : Int32))), (.ref a)])) := fun tq kq => G142 tq (by
    refine XS.iconst X141.here hx rfl (hb hby d6_5) ?_
    show Steps p.tables e below (T141.setTop (mkF m 6 #[.val (.ref a), .val (.ref y)] [(.int (1 : Int32)), (.int mc), (.ref a)])) _
    refine XS.iadd X141.here hx rfl (hb hby d6_6) rfl ?_
    show Steps p.tables e below (T141.setTop (mkF m 7 #[.val (.ref a), .val (.ref y)] [(.int (mc + (1 : Int32))), (.ref a)])) _
    exact kq)
  obtain ⟨T144, h144, X144, e144, W144, st144⟩ := putF X141 hx hZ hown (host := "") (Or.inl (hw _ (List.mem_of_getElem? (i := 58) rfl))) (Via.of (hw _ (List.mem_of_getElem? (i := 59) rfl))) e141 F0 E (Or.inl (hw _ (List.mem_of_getElem? (i := 23) rfl))) (hw _ (List.mem_of_getElem? (i := 2) rfl)) (ty := .int) (by decide) rfl rfl (g := (mkF m 7 #[.val (.ref a), .val (.ref y)] [(.int (mc + (1 : Int32))), (.ref a)])) rfl rfl (hb hby d6_7)
  have N144 := Fr.snoc X144 N0 ga
  have fw144 := F0.same W144
  have G145 : Go p e below A0 (T144.setTop (mkF m 10 #[.val (.ref a), .val (.ref y)] [])) := fun tq kq => G143 tq (st144 _ kq)
  have G146 : Go p e below A0 (T144.setTop (mkF m 13 #[.val (.ref a), .val (.ref y)] [(.ref a), (.ref y), (.ref a)])) := fun tq kq => G145 tq (by
    refine XS.aloadN X144.here hx rfl (hb hby d6_10) rfl rfl ?_
    show Steps p.tables e below (T144.setTop (mkF m 11 #[.val (.ref a), .val (.ref y)] [(.ref a)])) _
    refine XS.aloadN X144.here hx rfl (hb hby d6_11) rfl rfl ?_
    show Steps p.tables e below (T144.setTop (mkF m 12 #[.val (.ref a), .val (.ref y)] [(.ref y), (.ref a)])) _
    refine XS.aloadN X144.here hx rfl (hb hby d6_12) rfl rfl ?_
    show Steps p.tables e below (T144.setTop (mkF m 13 #[.val (.ref a), .val (.ref y)] [(.ref a), (.ref y), (.ref a)])) _
    exact kq)
  have f147 := (F1.other W144 (Or.inr (slot_ne (Or.inl (hw _ (List.mem_of_getElem? (i := 26) rfl))) (Or.inl (hw _ (List.mem_of_getElem? (i := 23) rfl))) (by decide) (t := (.array (.object "java/lang/Object"))) (t' := .int) (by decide) (by decide))))
  obtain ⟨T148, X148, e148, st148⟩ := getF X144 hx hZ hown (host := "") (Or.inl (hw _ (List.mem_of_getElem? (i := 25) rfl))) Via.refl e144 f147 (g := (mkF m 13 #[.val (.ref a), .val (.ref y)] [(.ref a), (.ref y), (.ref a)])) rfl rfl (hb hby d6_13)
  have G149 : Go p e below A0 (T148.setTop (mkF m 16 #[.val (.ref a), .val (.ref y)] [(.ref b), (.ref y), (.ref a)])) := fun tq kq => G146 tq (st148 _ kq)
  have G150 : Go p e below A0 (T148.setTop (mkF m 17 #[.val (.ref a), .val (.ref y)] [(.ref a), (.ref b), (.ref y), (.ref a)])) := fun tq kq => G149 tq (by
    refine XS.aloadN X148.here hx rfl (hb hby d6_16) rfl rfl ?_
    show Steps p.tables e below (T148.setTop (mkF m 17 #[.val (.ref a), .val (.ref y)] [(.ref a), (.ref b), (.ref y), (.ref a)])) _
    exact kq)
  have f151 := (F2.other W144 (Or.inr (slot_ne (Or.inl (hw _ (List.mem_of_getElem? (i := 61) rfl))) (Or.inl (hw _ (List.mem_of_getElem? (i := 23) rfl))) (by decide) (t := .int) (t' := .int) (by decide) (by decide))))
  obtain ⟨T152, X152, e152, st152⟩ := getF X148 hx hZ hown (host := "") (Or.inl (hw _ (List.mem_of_getElem? (i := 60) rfl))) Via.refl e148 f151 (g := (mkF m 17 #[.val (.ref a), .val (.ref y)] [(.ref a), (.ref b), (.ref y), (.ref a)])) rfl rfl (hb hby d6_17)
  have G153 : Go p e below A0 (T152.setTop (mkF m 20 #[.val (.ref a), .val (.ref y)] [(.int (1 : Int32)), (.ref b), (.ref y), (.ref a)])) := fun tq kq => G150 tq (st152 _ kq)
  have f155 := (Nat.le_trans Z0 (Keep.of_wr W144).1)
  have f156 := (E.wr W144)
  have f157 := (Ey.wr W144)
  have f158 := (A.other W144 (Ne.symm hab))
  obtain ⟨cq154, q154, q154'⟩ := f156.cell
  obtain ⟨_, _, ⟨T154, L154, k154, n154⟩, -, X154, ⟨Lc154, hQ154, l154, y154, z154⟩, st154⟩ := X152.privateBack hx (y := (⟨"java/util/ArrayList", "add", "(Ljava/lang/Object;[Ljava/lang/Object;I)V"⟩ : MethodName)) hown (mvT hZ (hw _ (List.mem_of_getElem? (i := 62) rfl))) (mvT hZ (hw _ (List.mem_of_getElem? (i := 63) rfl))) (mvT hZ (hw _ (List.mem_of_getElem? (i := 65) rfl))) (Cond.privateMethod_at (mvP hZ (hw _ (List.mem_of_getElem? (i := 64) rfl)) (args := #[]))) (mvT hZ (hw _ (List.mem_of_getElem? (i := 66) rfl))) (by decide) (backOf (W := 0) (rmA3b l Z a0 hw [] a b x y (mc + (1 : Int32)) kb h144 n0 f155 f156 ga fw144 f147 f151 f158 Ov gb hab f157) hZ (hw _ (List.mem_of_getElem? (i := 66) rfl)) (hw _ (List.mem_of_getElem? (i := 3) rfl)) (by decide) (by decide)) (g := (mkF m 20 #[.val (.ref a), .val (.ref y)] [(.int (1 : Int32)), (.ref b), (.ref y), (.ref a)])) rfl (by rw [hml]; rfl) (Steps.refl _) (a := a) (by rw [e152]; exact q154) q154' (argsL := [(.ref y), (.ref b), (.int (1 : Int32))]) (rest := []) (lenOf pd_4 rfl) rfl (by show 2 * 0 + _ ≤ _; exact Nat.le_of_eq rfl) (hb hby d6_20) (fun _ _ => ⟨rfl, e152, (by decide : 0 + 0 ≤ _), (by decide : 0 + 0 ≤ _)⟩)
  dsimp only [Pt.U, Pt.locs, Pt.cells, Pt.slots] at X154 l154 y154 z154 st154 hQ154
  obtain rfl : k154 = 0 := y154
  obtain rfl : n154 = 0 := z154
  obtain ⟨rfl, N154q, K154, Fx154_0, Fx154_1, Fx154_2, Ab154⟩ := hQ154
  have N154 : Fr n0 L154 := by rw [l154]; exact Fr.app N144 N154q
  have Fx154_0x : Fld Z T154.heap a "java/util/AbstractList" "modCount" "I" (.int (mc + (1 : Int32))) := Fx154_0
  have G159 : Go p e below A0 (T154.setTop (mkF m 23 #[.val (.ref a), .val (.ref y)] [])) := fun tq kq => G153 tq (st154.trans kq)
  have G160 : Go p e below A0 (T154.setTop (mkF m 24 #[.val (.ref a), .val (.ref y)] [(.int (1 : Int32))])) := fun tq kq => G159 tq (by
    refine XS.iconst X154.here hx rfl (hb hby d6_23) ?_
    show Steps p.tables e below (T154.setTop (mkF m 24 #[.val (.ref a), .val (.ref y)] [(.int (1 : Int32))])) _
    exact kq)
  obtain ⟨fs, hr, hrun, hended, hW, hsame⟩ := X154.leave (v := some (.int (nar .boolean (1 : Int32)))) (fun h => by rw [Bd.returns] at h; cases h)
  refine ⟨_, _, (by rw [← hA0]; exact G160 _ (retN X154 hx (t := .boolean) Bd.returns (by simp) (hb hby d6_24) hr)), hrun, hended, _, _, rfl, ?_, ⟨_, rfl⟩, hW, hsame.mono (by decide) (by decide)⟩
  show Qa2 Z a b x y kb (some (.int 1)) (mc + (1 : Int32)) h0 n0 _ T154.heap _
  exact ⟨rfl, N154, (((Keep.refl h0 [a, b]).wr W144 (Or.inl (List.mem_of_getElem? (i := 0) rfl))).trans K154 (allS (P := fun x => x ∈ [a, b] ∨ h0.size ≤ x) (Or.inl (List.mem_of_getElem? (i := 0) rfl)) (allS (P := fun x => x ∈ [a, b] ∨ h0.size ≤ x) (Or.inl (List.mem_of_getElem? (i := 1) rfl)) all0))), Fx154_0x, Fx154_1, Fx154_2, Ab154⟩
set_option maxRecDepth 65536 in
set_option maxHeartbeats 40000000 in
theorem rm12 (l : Launch) (Z : State) (a0 : Array Value) (hw : ∀ d ∈ tables_1, d.before a0 Z = true) (ws : List Jvm.Cond) (a : Addr) (n : Int32) (h0 : Heap) (n0 : Nat) (Z0 : n0 ≤ h0.size) (F : Fld Z h0 a "java/util/ArrayList" "size" "I" (.int n)) :
    MetFree l (⟨"java/util/ArrayList", "size", "()I"⟩ : MethodName) (head1 (Jvm.Cond.code (⟨"java/util/ArrayList", "size", "()I"⟩ : MethodName) jdk_38_method_8_code 1 (some .int) :: ws) ({ frames := 0, cells := 0, slots := 0, locals := 0 } : Room)) (fun aa UU => aa = #[(.ref a)] ∧ Z.Warmed39 UU.vm ∧ UU.heap = h0) (fun _ _ _ _ _ => True) (fun _ UU oo U' => ∃ v L, oo = .returned v ∧ Qr (.int n) h0 n0 v U'.heap L ∧ FrameEnd UU oo U' L ({ frames := 0, cells := 0, slots := 0, locals := 0 } : Room).cells ({ frames := 0, cells := 0, slots := 0, locals := 0 } : Room).slots) := by
  refine MetFree.of_bodySF (plainFor_of_name pn_2) hisR ?_
  intro p e s m args below meth c s₁ Bd hml0 hP hK
  obtain ⟨rfl, hZ, hh⟩ := hP
  have hx := Bd.exec
  have hby := Bd.bytes
  have hml : c.maxLocals = 1 := hml0
  have hown : s.vm.findClass "java/util/ArrayList" = some m.cls := findClass_of_methodNamed Bd.named
  have hnm := (name_of_methodNamed Bd.named Bd.method).1
  have X0 : Stand p l e ({ frames := 0, cells := 0, slots := 0, locals := 0 } : Room) s m #[(.ref a)] below meth c s₁ [] 0 0 := Stand.of_body Bd
  have e0 : s₁.heap = h0 := by rw [← hh, Bd.state]; rfl
  have N0 := Fr.nil n0
  obtain ⟨A0, hA0⟩ : ∃ A, A = s₁.setTop (entryFrame m #[(.ref a)] 1) := ⟨_, rfl⟩
  have G0 : Go p e below A0 (s₁.setTop (mkF m 0 #[.val (.ref a)] [])) := fun tq kq => by rw [hA0]; exact castTop (ef_rm12 m a) kq
  have G161 : Go p e below A0 (s₁.setTop (mkF m 1 #[.val (.ref a)] [(.ref a)])) := fun tq kq => G0 tq (by
    refine XS.aloadN X0.here hx rfl (hb hby d12_0) rfl rfl ?_
    show Steps p.tables e below (s₁.setTop (mkF m 1 #[.val (.ref a)] [(.ref a)])) _
    exact kq)
  obtain ⟨T162, X162, e162, st162⟩ := getF X0 hx hZ hown (host := "") (Or.inl (hw _ (List.mem_of_getElem? (i := 60) rfl))) Via.refl e0 F (g := (mkF m 1 #[.val (.ref a)] [(.ref a)])) rfl rfl (hb hby d12_1)
  have G163 : Go p e below A0 (T162.setTop (mkF m 4 #[.val (.ref a)] [(.int n)])) := fun tq kq => G161 tq (st162 _ kq)
  obtain ⟨fs, hr, hrun, hended, hW, hsame⟩ := X162.leave (v := some (.int n)) (fun h => by rw [Bd.returns] at h; cases h)
  refine ⟨_, _, (by rw [← hA0]; exact G163 _ (retOut X162 hx (t := .int) Bd.returns rfl (Or.inl ⟨rfl, Or.inl rfl, _, rfl⟩) (hb hby d12_4) hr)), hrun, hended, _, _, rfl, ?_, ⟨_, rfl⟩, hW, hsame.mono (by decide) (by decide)⟩
  exact ⟨rfl, N0, e162⟩
set_option maxRecDepth 65536 in
set_option maxHeartbeats 40000000 in
theorem rm15 (l : Launch) (Z : State) (a0 : Array Value) (hw : ∀ d ∈ tables_1, d.before a0 Z = true) (ws : List Jvm.Cond) (i n : Int32) (h0 : Heap) (n0 : Nat) (Z0 : n0 ≤ h0.size) (hi : ¬ i < (0 : Int32) ∧ i < n) :
    MetFree l (⟨"jdk/internal/util/Preconditions", "checkIndex", "(IILjava/util/function/BiFunction;)I"⟩ : MethodName) (head1 (Jvm.Cond.code (⟨"jdk/internal/util/Preconditions", "checkIndex", "(IILjava/util/function/BiFunction;)I"⟩ : MethodName) jdk_41_method_11_code 3 (some .int) :: ws) ({ frames := 0, cells := 0, slots := 0, locals := 0 } : Room)) (fun aa UU => aa = #[(.int i), (.int n), .null] ∧ Z.Warmed39 UU.vm ∧ UU.heap = h0) (fun _ _ _ _ _ => True) (fun _ UU oo U' => ∃ v L, oo = .returned v ∧ Qr (.int i) h0 n0 v U'.heap L ∧ FrameEnd UU oo U' L ({ frames := 0, cells := 0, slots := 0, locals := 0 } : Room).cells ({ frames := 0, cells := 0, slots := 0, locals := 0 } : Room).slots) := by
  refine MetFree.of_bodySF (plainFor_of_name pn_4) hisR ?_
  intro p e s m args below meth c s₁ Bd hml0 hP hK
  obtain ⟨rfl, hZ, hh⟩ := hP
  have hx := Bd.exec
  have hby := Bd.bytes
  have hml : c.maxLocals = 3 := hml0
  have hown : s.vm.findClass "jdk/internal/util/Preconditions" = some m.cls := findClass_of_methodNamed Bd.named
  have hnm := (name_of_methodNamed Bd.named Bd.method).1
  have X0 : Stand p l e ({ frames := 0, cells := 0, slots := 0, locals := 0 } : Room) s m #[(.int i), (.int n), .null] below meth c s₁ [] 0 0 := Stand.of_body Bd
  have e0 : s₁.heap = h0 := by rw [← hh, Bd.state]; rfl
  have N0 := Fr.nil n0
  obtain ⟨A0, hA0⟩ : ∃ A, A = s₁.setTop (entryFrame m #[(.int i), (.int n), .null] 3) := ⟨_, rfl⟩
  have G0 : Go p e below A0 (s₁.setTop (mkF m 0 #[.val (.int i), .val (.int n), .val .null] [])) := fun tq kq => by rw [hA0]; exact castTop (ef_rm15 m i n) kq
  have G164 : Go p e below A0 (s₁.setTop (mkF m 17 #[.val (.int i), .val (.int n), .val .null] [(.int i)])) := fun tq kq => G0 tq (by
    refine XS.iloadN X0.here hx rfl (hb hby d15_0) rfl ?_
    show Steps p.tables e below (s₁.setTop (mkF m 1 #[.val (.int i), .val (.int n), .val .null] [(.int i)])) _
    refine XS.ifNo X0.here hx rfl (hb hby d15_1) rfl ((if0 _ _).trans (flt hi.1).1) ?_
    show Steps p.tables e below (s₁.setTop (mkF m 4 #[.val (.int i), .val (.int n), .val .null] [])) _
    refine XS.iloadN X0.here hx rfl (hb hby d15_4) rfl ?_
    show Steps p.tables e below (s₁.setTop (mkF m 5 #[.val (.int i), .val (.int n), .val .null] [(.int i)])) _
    refine XS.iloadN X0.here hx rfl (hb hby d15_5) rfl ?_
    show Steps p.tables e below (s₁.setTop (mkF m 6 #[.val (.int i), .val (.int n), .val .null] [(.int n), (.int i)])) _
    refine XS.icmpYes X0.here hx rfl (pc0 := 6) (pc' := 16) rfl (hb hby d15_6) rfl (tlt hi.2).1 (by decide) (by decide) ?_
    show Steps p.tables e below (s₁.setTop (mkF m 16 #[.val (.int i), .val (.int n), .val .null] [])) _
    refine XS.iloadN X0.here hx rfl (hb hby d15_16) rfl ?_
    show Steps p.tables e below (s₁.setTop (mkF m 17 #[.val (.int i), .val (.int n), .val .null] [(.int i)])) _
    exact kq)
  obtain ⟨fs, hr, hrun, hended, hW, hsame⟩ := X0.leave (v := some (.int i)) (fun h => by rw [Bd.returns] at h; cases h)
  refine ⟨_, _, (by rw [← hA0]; exact G164 _ (retOut X0 hx (t := .int) Bd.returns rfl (Or.inl ⟨rfl, Or.inl rfl, _, rfl⟩) (hb hby d15_17) hr)), hrun, hended, _, _, rfl, ?_, ⟨_, rfl⟩, hW, hsame.mono (by decide) (by decide)⟩
  exact ⟨rfl, N0, e0⟩
set_option maxRecDepth 65536 in
set_option maxHeartbeats 40000000 in
theorem rm14 (l : Launch) (Z : State) (a0 : Array Value) (hw : ∀ d ∈ tables_1, d.before a0 Z = true) (ws : List Jvm.Cond) (i n : Int32) (h0 : Heap) (n0 : Nat) (Z0 : n0 ≤ h0.size) (hi : ¬ i < (0 : Int32) ∧ i < n) :
    MetFree l (⟨"java/util/Objects", "checkIndex", "(II)I"⟩ : MethodName) (head1 (Jvm.Cond.code (⟨"java/util/Objects", "checkIndex", "(II)I"⟩ : MethodName) jdk_31_method_17_code 2 (some .int) :: ws) ({ frames := 1, cells := 0, slots := 0, locals := 14 } : Room)) (fun aa UU => aa = #[(.int i), (.int n)] ∧ Z.Warmed39 UU.vm ∧ UU.heap = h0) (fun _ _ _ _ _ => True) (fun _ UU oo U' => ∃ v L, oo = .returned v ∧ Qr (.int i) h0 n0 v U'.heap L ∧ FrameEnd UU oo U' L ({ frames := 1, cells := 0, slots := 0, locals := 14 } : Room).cells ({ frames := 1, cells := 0, slots := 0, locals := 14 } : Room).slots) := by
  refine MetFree.of_bodySF (plainFor_of_name pn_5) hisR ?_
  intro p e s m args below meth c s₁ Bd hml0 hP hK
  obtain ⟨rfl, hZ, hh⟩ := hP
  have hx := Bd.exec
  have hby := Bd.bytes
  have hml : c.maxLocals = 2 := hml0
  have hown : s.vm.findClass "java/util/Objects" = some m.cls := findClass_of_methodNamed Bd.named
  have hnm := (name_of_methodNamed Bd.named Bd.method).1
  have X0 : Stand p l e ({ frames := 1, cells := 0, slots := 0, locals := 14 } : Room) s m #[(.int i), (.int n)] below meth c s₁ [] 0 0 := Stand.of_body Bd
  have e0 : s₁.heap = h0 := by rw [← hh, Bd.state]; rfl
  have N0 := Fr.nil n0
  obtain ⟨A0, hA0⟩ : ∃ A, A = s₁.setTop (entryFrame m #[(.int i), (.int n)] 2) := ⟨_, rfl⟩
  have G0 : Go p e below A0 (s₁.setTop (mkF m 0 #[.val (.int i), .val (.int n)] [])) := fun tq kq => by rw [hA0]; exact castTop (ef_rm14 m i n) kq
  have G165 : Go p e below A0 (s₁.setTop (mkF m 3 #[.val (.int i), .val (.int n)] [.null, (.int n), (.int i)])) := fun tq kq => G0 tq (by
    refine XS.iloadN X0.here hx rfl (hb hby d14_0) rfl ?_
    show Steps p.tables e below (s₁.setTop (mkF m 1 #[.val (.int i), .val (.int n)] [(.int i)])) _
    refine XS.iloadN X0.here hx rfl (hb hby d14_1) rfl ?_
    show Steps p.tables e below (s₁.setTop (mkF m 2 #[.val (.int i), .val (.int n)] [(.int n), (.int i)])) _
    refine XS.aconstNull X0.here hx rfl (hb hby d14_2) ?_
    show Steps p.tables e below (s₁.setTop (mkF m 3 #[.val (.int i), .val (.int n)] [.null, (.int n), (.int i)])) _
    exact kq)
  obtain ⟨_, _, ⟨T166, L166, k166, n166⟩, -, X166, ⟨Lc166, hQ166, l166, y166, z166⟩, st166⟩ := Jvm.LawKit.callS X0 hx (y := (⟨"jdk/internal/util/Preconditions", "checkIndex", "(IILjava/util/function/BiFunction;)I"⟩ : MethodName)) hown (mvT hZ (hw _ (List.mem_of_getElem? (i := 125) rfl))) (mvT hZ (hw _ (List.mem_of_getElem? (i := 126) rfl))) (mvT hZ (hw _ (List.mem_of_getElem? (i := 127) rfl))) (mvT hZ (hw _ (List.mem_of_getElem? (i := 128) rfl))) (by decide) (backOf (W := 0) (rm15 l Z a0 hw [] i n h0 n0 Z0 hi) hZ (hw _ (List.mem_of_getElem? (i := 128) rfl)) (hw _ (List.mem_of_getElem? (i := 127) rfl)) (by decide) (by decide)) (g := (mkF m 3 #[.val (.int i), .val (.int n)] [.null, (.int n), (.int i)])) rfl (by rw [hml]; rfl) (argsL := [(.int i), (.int n), .null]) (rest := []) (lenOf pd_5 rfl) rfl (by show 2 * 0 + _ ≤ _; exact Nat.le_of_eq rfl) (hb hby d14_3) (fun _ _ => ⟨rfl, e0, (by decide : 0 + 0 ≤ _), (by decide : 0 + 0 ≤ _)⟩)
  dsimp only [Pt.U, Pt.locs, Pt.cells, Pt.slots] at X166 l166 y166 z166 st166 hQ166
  obtain rfl : k166 = 0 := y166
  obtain rfl : n166 = 0 := z166
  obtain ⟨rfl, N166q, e166⟩ := hQ166
  have N166 : Fr n0 L166 := by rw [l166]; exact Fr.app N0 N166q
  have G167 : Go p e below A0 (T166.setTop (mkF m 6 #[.val (.int i), .val (.int n)] [(.int i)])) := fun tq kq => G165 tq (st166 _ kq)
  obtain ⟨fs, hr, hrun, hended, hW, hsame⟩ := X166.leave (v := some (.int i)) (fun h => by rw [Bd.returns] at h; cases h)
  refine ⟨_, _, (by rw [← hA0]; exact G167 _ (retOut X166 hx (t := .int) Bd.returns rfl (Or.inl ⟨rfl, Or.inl rfl, _, rfl⟩) (hb hby d14_6) hr)), hrun, hended, _, _, rfl, ?_, ⟨_, rfl⟩, hW, hsame.mono (by decide) (by decide)⟩
  exact ⟨rfl, N166, e166⟩
set_option maxRecDepth 65536 in
set_option maxHeartbeats 40000000 in
theorem rmED0 (l : Launch) (Z : State) (a0 : Array Value) (hw : ∀ d ∈ tables_1, d.before a0 Z = true) (ws : List Jvm.Cond) (a b x y : Addr) (kb : ClassId) (h0 : Heap) (n0 : Nat) (Z0 : n0 ≤ h0.size) (E : Exa Z h0 a "java/util/ArrayList") (F1 : Fld Z h0 a "java/util/ArrayList" "elementData" "[Ljava/lang/Object;" (.ref b)) (F2 : Fld Z h0 a "java/util/ArrayList" "size" "I" (.int (2 : Int32))) (A : Arv Z h0 b kb (.object "java/lang/Object") (10 : Int32) [(.ref x), (.ref y), .null, .null, .null, .null, .null, .null, .null, .null] .null) :
    MetFree l (⟨"java/util/ArrayList", "elementData", "(I)Ljava/lang/Object;"⟩ : MethodName) (head1 (Jvm.Cond.code (⟨"java/util/ArrayList", "elementData", "(I)Ljava/lang/Object;"⟩ : MethodName) jdk_38_method_18_code 2 (some (.object "java/lang/Object")) :: ws) ({ frames := 0, cells := 0, slots := 0, locals := 0 } : Room)) (fun aa UU => aa = #[(.ref a), (.int (0 : Int32))] ∧ Z.Warmed39 UU.vm ∧ UU.heap = h0) (fun _ _ _ _ _ => True) (fun _ UU oo U' => ∃ v L, oo = .returned v ∧ Qr (.ref x) h0 n0 v U'.heap L ∧ FrameEnd UU oo U' L ({ frames := 0, cells := 0, slots := 0, locals := 0 } : Room).cells ({ frames := 0, cells := 0, slots := 0, locals := 0 } : Room).slots) := by
  refine MetFree.of_bodySF (plainFor_of_name pn_2) hisR ?_
  intro p e s m args below meth c s₁ Bd hml0 hP hK
  obtain ⟨rfl, hZ, hh⟩ := hP
  have hx := Bd.exec
  have hby := Bd.bytes
  have hml : c.maxLocals = 2 := hml0
  have hown : s.vm.findClass "java/util/ArrayList" = some m.cls := findClass_of_methodNamed Bd.named
  have hnm := (name_of_methodNamed Bd.named Bd.method).1
  have X0 : Stand p l e ({ frames := 0, cells := 0, slots := 0, locals := 0 } : Room) s m #[(.ref a), (.int (0 : Int32))] below meth c s₁ [] 0 0 := Stand.of_body Bd
  have e0 : s₁.heap = h0 := by rw [← hh, Bd.state]; rfl
  have N0 := Fr.nil n0
  obtain ⟨A0, hA0⟩ : ∃ A, A = s₁.setTop (entryFrame m #[(.ref a), (.int (0 : Int32))] 2) := ⟨_, rfl⟩
  have G0 : Go p e below A0 (s₁.setTop (mkF m 0 #[.val (.ref a), .val (.int (0 : Int32))] [])) := fun tq kq => by rw [hA0]; exact castTop (ef_rmED0 m a (0 : Int32)) kq
  have G168 : Go p e below A0 (s₁.setTop (mkF m 1 #[.val (.ref a), .val (.int (0 : Int32))] [(.ref a)])) := fun tq kq => G0 tq (by
    refine XS.aloadN X0.here hx rfl (hb hby d16_0) rfl rfl ?_
    show Steps p.tables e below (s₁.setTop (mkF m 1 #[.val (.ref a), .val (.int (0 : Int32))] [(.ref a)])) _
    exact kq)
  obtain ⟨T169, X169, e169, st169⟩ := getF X0 hx hZ hown (host := "") (Or.inl (hw _ (List.mem_of_getElem? (i := 25) rfl))) Via.refl e0 F1 (g := (mkF m 1 #[.val (.ref a), .val (.int (0 : Int32))] [(.ref a)])) rfl rfl (hb hby d16_1)
  have G170 : Go p e below A0 (T169.setTop (mkF m 4 #[.val (.ref a), .val (.int (0 : Int32))] [(.ref b)])) := fun tq kq => G168 tq (st169 _ kq)
  have G171 : Go p e below A0 (T169.setTop (mkF m 5 #[.val (.ref a), .val (.int (0 : Int32))] [(.int (0 : Int32)), (.ref b)])) := fun tq kq => G170 tq (by
    refine XS.iloadN X169.here hx rfl (hb hby d16_4) rfl ?_
    show Steps p.tables e below (T169.setTop (mkF m 5 #[.val (.ref a), .val (.int (0 : Int32))] [(.int (0 : Int32)), (.ref b)])) _
    exact kq)
  obtain ⟨cl172, Ar172, q172, S172, M172, H172, Gf172⟩ := id A
  have hi173 : ¬ ((0 : Int32) < 0 ∨ cl172.slots.size ≤ ((0 : Int32)).toNatClampNeg) := (inb_of S172 ⟨by decide, by decide⟩)
  have G174 : Go p e below A0 (T169.setTop (mkF m 6 #[.val (.ref a), .val (.int (0 : Int32))] [(.ref x)])) := fun tq kq => G171 tq (by
    refine X169.aaload hx (j := (0 : Int32)) (v := (.ref x)) (by rw [e169]; exact Ar172.1) (State.isArrayOf_alike hZ.alike Ar172.2.1) rfl Ar172.2.2 hi173 (H172.at hi173 rfl) (g := (mkF m 5 #[.val (.ref a), .val (.int (0 : Int32))] [(.int (0 : Int32)), (.ref b)])) rfl rfl (hb hby d16_5) _ ?_
    show Steps p.tables e below (T169.setTop (mkF m 6 #[.val (.ref a), .val (.int (0 : Int32))] [(.ref x)])) _
    exact kq)
  obtain ⟨fs, hr, hrun, hended, hW, hsame⟩ := X169.leave (v := some (.ref x)) (fun h => by rw [Bd.returns] at h; cases h)
  refine ⟨_, _, (by rw [← hA0]; exact G174 _ (retOut X169 hx (t := (.object "java/lang/Object")) Bd.returns rfl (Or.inr (Or.inr (Or.inr (Or.inr ⟨rfl, rfl, rfl⟩)))) (hb hby d16_6) hr)), hrun, hended, _, _, rfl, ?_, ⟨_, rfl⟩, hW, hsame.mono (by decide) (by decide)⟩
  exact ⟨rfl, N0, e169⟩
set_option maxRecDepth 65536 in
set_option maxHeartbeats 40000000 in
theorem rmGT0 (l : Launch) (Z : State) (a0 : Array Value) (hw : ∀ d ∈ tables_1, d.before a0 Z = true) (ws : List Jvm.Cond) (a b x y : Addr) (kb : ClassId) (h0 : Heap) (n0 : Nat) (Z0 : n0 ≤ h0.size) (E : Exa Z h0 a "java/util/ArrayList") (F1 : Fld Z h0 a "java/util/ArrayList" "elementData" "[Ljava/lang/Object;" (.ref b)) (F2 : Fld Z h0 a "java/util/ArrayList" "size" "I" (.int (2 : Int32))) (A : Arv Z h0 b kb (.object "java/lang/Object") (10 : Int32) [(.ref x), (.ref y), .null, .null, .null, .null, .null, .null, .null, .null] .null) :
    MetFree l (⟨"java/util/ArrayList", "get", "(I)Ljava/lang/Object;"⟩ : MethodName) (head1 (Jvm.Cond.code (⟨"java/util/ArrayList", "get", "(I)Ljava/lang/Object;"⟩ : MethodName) jdk_38_method_20_code 2 (some (.object "java/lang/Object")) :: ws) ({ frames := 2, cells := 0, slots := 0, locals := 27 } : Room)) (fun aa UU => aa = #[(.ref a), (.int (0 : Int32))] ∧ Z.Warmed39 UU.vm ∧ UU.heap = h0) (fun _ _ _ _ _ => True) (fun _ UU oo U' => ∃ v L, oo = .returned v ∧ Qr (.ref x) h0 n0 v U'.heap L ∧ FrameEnd UU oo U' L ({ frames := 2, cells := 0, slots := 0, locals := 27 } : Room).cells ({ frames := 2, cells := 0, slots := 0, locals := 27 } : Room).slots) := by
  refine MetFree.of_bodySF (plainFor_of_name pn_2) hisR ?_
  intro p e s m args below meth c s₁ Bd hml0 hP hK
  obtain ⟨rfl, hZ, hh⟩ := hP
  have hx := Bd.exec
  have hby := Bd.bytes
  have hml : c.maxLocals = 2 := hml0
  have hown : s.vm.findClass "java/util/ArrayList" = some m.cls := findClass_of_methodNamed Bd.named
  have hnm := (name_of_methodNamed Bd.named Bd.method).1
  have X0 : Stand p l e ({ frames := 2, cells := 0, slots := 0, locals := 27 } : Room) s m #[(.ref a), (.int (0 : Int32))] below meth c s₁ [] 0 0 := Stand.of_body Bd
  have e0 : s₁.heap = h0 := by rw [← hh, Bd.state]; rfl
  have N0 := Fr.nil n0
  obtain ⟨A0, hA0⟩ : ∃ A, A = s₁.setTop (entryFrame m #[(.ref a), (.int (0 : Int32))] 2) := ⟨_, rfl⟩
  have G0 : Go p e below A0 (s₁.setTop (mkF m 0 #[.val (.ref a), .val (.int (0 : Int32))] [])) := fun tq kq => by rw [hA0]; exact castTop (ef_rmGT0 m a (0 : Int32)) kq
  have G175 : Go p e below A0 (s₁.setTop (mkF m 2 #[.val (.ref a), .val (.int (0 : Int32))] [(.ref a), (.int (0 : Int32))])) := fun tq kq => G0 tq (by
    refine XS.iloadN X0.here hx rfl (hb hby d13_0) rfl ?_
    show Steps p.tables e below (s₁.setTop (mkF m 1 #[.val (.ref a), .val (.int (0 : Int32))] [(.int (0 : Int32))])) _
    refine XS.aloadN X0.here hx rfl (hb hby d13_1) rfl rfl ?_
    show Steps p.tables e below (s₁.setTop (mkF m 2 #[.val (.ref a), .val (.int (0 : Int32))] [(.ref a), (.int (0 : Int32))])) _
    exact kq)
  obtain ⟨T176, X176, e176, st176⟩ := getF X0 hx hZ hown (host := "") (Or.inl (hw _ (List.mem_of_getElem? (i := 60) rfl))) Via.refl e0 F2 (g := (mkF m 2 #[.val (.ref a), .val (.int (0 : Int32))] [(.ref a), (.int (0 : Int32))])) rfl rfl (hb hby d13_2)
  have G177 : Go p e below A0 (T176.setTop (mkF m 5 #[.val (.ref a), .val (.int (0 : Int32))] [(.int (2 : Int32)), (.int (0 : Int32))])) := fun tq kq => G175 tq (st176 _ kq)
  obtain ⟨_, _, ⟨T178, L178, k178, n178⟩, -, X178, ⟨Lc178, hQ178, l178, y178, z178⟩, st178⟩ := Jvm.LawKit.callS X176 hx (y := (⟨"java/util/Objects", "checkIndex", "(II)I"⟩ : MethodName)) hown (mvT hZ (hw _ (List.mem_of_getElem? (i := 121) rfl))) (mvT hZ (hw _ (List.mem_of_getElem? (i := 122) rfl))) (mvT hZ (hw _ (List.mem_of_getElem? (i := 123) rfl))) (mvT hZ (hw _ (List.mem_of_getElem? (i := 124) rfl))) (by decide) (backOf (W := 0) (rm14 l Z a0 hw [] (0 : Int32) (2 : Int32) h0 n0 Z0 ⟨by decide, by decide⟩) hZ (hw _ (List.mem_of_getElem? (i := 124) rfl)) (hw _ (List.mem_of_getElem? (i := 123) rfl)) (by decide) (by decide)) (g := (mkF m 5 #[.val (.ref a), .val (.int (0 : Int32))] [(.int (2 : Int32)), (.int (0 : Int32))])) rfl (by rw [hml]; rfl) (argsL := [(.int (0 : Int32)), (.int (2 : Int32))]) (rest := []) (lenOf pd_1 rfl) rfl (by show 2 * 0 + _ ≤ _; exact Nat.le_of_eq rfl) (hb hby d13_5) (fun _ _ => ⟨rfl, e176, (by decide : 0 + 0 ≤ _), (by decide : 0 + 0 ≤ _)⟩)
  dsimp only [Pt.U, Pt.locs, Pt.cells, Pt.slots] at X178 l178 y178 z178 st178 hQ178
  obtain rfl : k178 = 0 := y178
  obtain rfl : n178 = 0 := z178
  obtain ⟨rfl, N178q, e178⟩ := hQ178
  have N178 : Fr n0 L178 := by rw [l178]; exact Fr.app N0 N178q
  have G179 : Go p e below A0 (T178.setTop (mkF m 8 #[.val (.ref a), .val (.int (0 : Int32))] [(.int (0 : Int32))])) := fun tq kq => G177 tq (st178 _ kq)
  have G180 : Go p e below A0 (T178.setTop (mkF m 11 #[.val (.ref a), .val (.int (0 : Int32))] [(.int (0 : Int32)), (.ref a)])) := fun tq kq => G179 tq (by
    refine XS.pop X178.here hx rfl (hb hby d13_8) rfl rfl ?_
    show Steps p.tables e below (T178.setTop (mkF m 9 #[.val (.ref a), .val (.int (0 : Int32))] [])) _
    refine XS.aloadN X178.here hx rfl (hb hby d13_9) rfl rfl ?_
    show Steps p.tables e below (T178.setTop (mkF m 10 #[.val (.ref a), .val (.int (0 : Int32))] [(.ref a)])) _
    refine XS.iloadN X178.here hx rfl (hb hby d13_10) rfl ?_
    show Steps p.tables e below (T178.setTop (mkF m 11 #[.val (.ref a), .val (.int (0 : Int32))] [(.int (0 : Int32)), (.ref a)])) _
    exact kq)
  obtain ⟨cq181, kq181, q181a, q181b, q181c⟩ := isOf hZ e178 E
  obtain ⟨_, _, ⟨T181, L181, k181, n181⟩, -, X181, ⟨Lc181, hQ181, l181, y181, z181⟩, st181⟩ := X178.virtualBack hx (y := (⟨"java/util/ArrayList", "elementData", "(I)Ljava/lang/Object;"⟩ : MethodName)) (z := (⟨"java/util/ArrayList", "elementData", "(I)Ljava/lang/Object;"⟩ : MethodName)) hown (mvT hZ (hw _ (List.mem_of_getElem? (i := 129) rfl))) (mvT hZ (hw _ (List.mem_of_getElem? (i := 130) rfl))) (notFace_of_selects (args := #[]) (mvT hZ (hw _ (List.mem_of_getElem? (i := 132) rfl)))) (mvT hZ (hw _ (List.mem_of_getElem? (i := 132) rfl))) (mvT hZ (hw _ (List.mem_of_getElem? (i := 131) rfl))) (by decide) (backOf (W := 0) (rmED0 l Z a0 hw [] a b x y kb h0 n0 Z0 E F1 F2 A) hZ (hw _ (List.mem_of_getElem? (i := 133) rfl)) (hw _ (List.mem_of_getElem? (i := 3) rfl)) (by decide) (by decide)) q181a q181c (g := (mkF m 11 #[.val (.ref a), .val (.int (0 : Int32))] [(.int (0 : Int32)), (.ref a)])) rfl (by rw [hml]; rfl) (Steps.refl _) (argsL := [(.int (0 : Int32))]) (rest := []) (lenOf pd_6 rfl) rfl (by show 2 * 0 + _ ≤ _; exact Nat.le_of_eq rfl) (hb hby d13_11) (fun _ _ => ⟨rfl, e178, (by decide : 0 + 0 ≤ _), (by decide : 0 + 0 ≤ _)⟩)
  dsimp only [Pt.U, Pt.locs, Pt.cells, Pt.slots] at X181 l181 y181 z181 st181 hQ181
  obtain rfl : k181 = 0 := y181
  obtain rfl : n181 = 0 := z181
  obtain ⟨rfl, N181q, e181⟩ := hQ181
  have N181 : Fr n0 L181 := by rw [l181]; exact Fr.app N178 N181q
  have G182 : Go p e below A0 (T181.setTop (mkF m 14 #[.val (.ref a), .val (.int (0 : Int32))] [(.ref x)])) := fun tq kq => G180 tq (st181.trans kq)
  obtain ⟨fs, hr, hrun, hended, hW, hsame⟩ := X181.leave (v := some (.ref x)) (fun h => by rw [Bd.returns] at h; cases h)
  refine ⟨_, _, (by rw [← hA0]; exact G182 _ (retOut X181 hx (t := (.object "java/lang/Object")) Bd.returns rfl (Or.inr (Or.inr (Or.inr (Or.inr ⟨rfl, rfl, rfl⟩)))) (hb hby d13_14) hr)), hrun, hended, _, _, rfl, ?_, ⟨_, rfl⟩, hW, hsame.mono (by decide) (by decide)⟩
  exact ⟨rfl, N181, e181⟩
set_option maxRecDepth 65536 in
set_option maxHeartbeats 40000000 in
theorem rmED1 (l : Launch) (Z : State) (a0 : Array Value) (hw : ∀ d ∈ tables_1, d.before a0 Z = true) (ws : List Jvm.Cond) (a b x y : Addr) (kb : ClassId) (h0 : Heap) (n0 : Nat) (Z0 : n0 ≤ h0.size) (E : Exa Z h0 a "java/util/ArrayList") (F1 : Fld Z h0 a "java/util/ArrayList" "elementData" "[Ljava/lang/Object;" (.ref b)) (F2 : Fld Z h0 a "java/util/ArrayList" "size" "I" (.int (2 : Int32))) (A : Arv Z h0 b kb (.object "java/lang/Object") (10 : Int32) [(.ref x), (.ref y), .null, .null, .null, .null, .null, .null, .null, .null] .null) :
    MetFree l (⟨"java/util/ArrayList", "elementData", "(I)Ljava/lang/Object;"⟩ : MethodName) (head1 (Jvm.Cond.code (⟨"java/util/ArrayList", "elementData", "(I)Ljava/lang/Object;"⟩ : MethodName) jdk_38_method_18_code 2 (some (.object "java/lang/Object")) :: ws) ({ frames := 0, cells := 0, slots := 0, locals := 0 } : Room)) (fun aa UU => aa = #[(.ref a), (.int (1 : Int32))] ∧ Z.Warmed39 UU.vm ∧ UU.heap = h0) (fun _ _ _ _ _ => True) (fun _ UU oo U' => ∃ v L, oo = .returned v ∧ Qr (.ref y) h0 n0 v U'.heap L ∧ FrameEnd UU oo U' L ({ frames := 0, cells := 0, slots := 0, locals := 0 } : Room).cells ({ frames := 0, cells := 0, slots := 0, locals := 0 } : Room).slots) := by
  refine MetFree.of_bodySF (plainFor_of_name pn_2) hisR ?_
  intro p e s m args below meth c s₁ Bd hml0 hP hK
  obtain ⟨rfl, hZ, hh⟩ := hP
  have hx := Bd.exec
  have hby := Bd.bytes
  have hml : c.maxLocals = 2 := hml0
  have hown : s.vm.findClass "java/util/ArrayList" = some m.cls := findClass_of_methodNamed Bd.named
  have hnm := (name_of_methodNamed Bd.named Bd.method).1
  have X0 : Stand p l e ({ frames := 0, cells := 0, slots := 0, locals := 0 } : Room) s m #[(.ref a), (.int (1 : Int32))] below meth c s₁ [] 0 0 := Stand.of_body Bd
  have e0 : s₁.heap = h0 := by rw [← hh, Bd.state]; rfl
  have N0 := Fr.nil n0
  obtain ⟨A0, hA0⟩ : ∃ A, A = s₁.setTop (entryFrame m #[(.ref a), (.int (1 : Int32))] 2) := ⟨_, rfl⟩
  have G0 : Go p e below A0 (s₁.setTop (mkF m 0 #[.val (.ref a), .val (.int (1 : Int32))] [])) := fun tq kq => by rw [hA0]; exact castTop (ef_rmED1 m a (1 : Int32)) kq
  have G183 : Go p e below A0 (s₁.setTop (mkF m 1 #[.val (.ref a), .val (.int (1 : Int32))] [(.ref a)])) := fun tq kq => G0 tq (by
    refine XS.aloadN X0.here hx rfl (hb hby d16_0) rfl rfl ?_
    show Steps p.tables e below (s₁.setTop (mkF m 1 #[.val (.ref a), .val (.int (1 : Int32))] [(.ref a)])) _
    exact kq)
  obtain ⟨T184, X184, e184, st184⟩ := getF X0 hx hZ hown (host := "") (Or.inl (hw _ (List.mem_of_getElem? (i := 25) rfl))) Via.refl e0 F1 (g := (mkF m 1 #[.val (.ref a), .val (.int (1 : Int32))] [(.ref a)])) rfl rfl (hb hby d16_1)
  have G185 : Go p e below A0 (T184.setTop (mkF m 4 #[.val (.ref a), .val (.int (1 : Int32))] [(.ref b)])) := fun tq kq => G183 tq (st184 _ kq)
  have G186 : Go p e below A0 (T184.setTop (mkF m 5 #[.val (.ref a), .val (.int (1 : Int32))] [(.int (1 : Int32)), (.ref b)])) := fun tq kq => G185 tq (by
    refine XS.iloadN X184.here hx rfl (hb hby d16_4) rfl ?_
    show Steps p.tables e below (T184.setTop (mkF m 5 #[.val (.ref a), .val (.int (1 : Int32))] [(.int (1 : Int32)), (.ref b)])) _
    exact kq)
  obtain ⟨cl187, Ar187, q187, S187, M187, H187, Gf187⟩ := id A
  have hi188 : ¬ ((1 : Int32) < 0 ∨ cl187.slots.size ≤ ((1 : Int32)).toNatClampNeg) := (inb_of S187 ⟨by decide, by decide⟩)
  have G189 : Go p e below A0 (T184.setTop (mkF m 6 #[.val (.ref a), .val (.int (1 : Int32))] [(.ref y)])) := fun tq kq => G186 tq (by
    refine X184.aaload hx (j := (1 : Int32)) (v := (.ref y)) (by rw [e184]; exact Ar187.1) (State.isArrayOf_alike hZ.alike Ar187.2.1) rfl Ar187.2.2 hi188 (H187.at hi188 rfl) (g := (mkF m 5 #[.val (.ref a), .val (.int (1 : Int32))] [(.int (1 : Int32)), (.ref b)])) rfl rfl (hb hby d16_5) _ ?_
    show Steps p.tables e below (T184.setTop (mkF m 6 #[.val (.ref a), .val (.int (1 : Int32))] [(.ref y)])) _
    exact kq)
  obtain ⟨fs, hr, hrun, hended, hW, hsame⟩ := X184.leave (v := some (.ref y)) (fun h => by rw [Bd.returns] at h; cases h)
  refine ⟨_, _, (by rw [← hA0]; exact G189 _ (retOut X184 hx (t := (.object "java/lang/Object")) Bd.returns rfl (Or.inr (Or.inr (Or.inr (Or.inr ⟨rfl, rfl, rfl⟩)))) (hb hby d16_6) hr)), hrun, hended, _, _, rfl, ?_, ⟨_, rfl⟩, hW, hsame.mono (by decide) (by decide)⟩
  exact ⟨rfl, N0, e184⟩
set_option maxRecDepth 65536 in
set_option maxHeartbeats 40000000 in
theorem rmGT1 (l : Launch) (Z : State) (a0 : Array Value) (hw : ∀ d ∈ tables_1, d.before a0 Z = true) (ws : List Jvm.Cond) (a b x y : Addr) (kb : ClassId) (h0 : Heap) (n0 : Nat) (Z0 : n0 ≤ h0.size) (E : Exa Z h0 a "java/util/ArrayList") (F1 : Fld Z h0 a "java/util/ArrayList" "elementData" "[Ljava/lang/Object;" (.ref b)) (F2 : Fld Z h0 a "java/util/ArrayList" "size" "I" (.int (2 : Int32))) (A : Arv Z h0 b kb (.object "java/lang/Object") (10 : Int32) [(.ref x), (.ref y), .null, .null, .null, .null, .null, .null, .null, .null] .null) :
    MetFree l (⟨"java/util/ArrayList", "get", "(I)Ljava/lang/Object;"⟩ : MethodName) (head1 (Jvm.Cond.code (⟨"java/util/ArrayList", "get", "(I)Ljava/lang/Object;"⟩ : MethodName) jdk_38_method_20_code 2 (some (.object "java/lang/Object")) :: ws) ({ frames := 2, cells := 0, slots := 0, locals := 27 } : Room)) (fun aa UU => aa = #[(.ref a), (.int (1 : Int32))] ∧ Z.Warmed39 UU.vm ∧ UU.heap = h0) (fun _ _ _ _ _ => True) (fun _ UU oo U' => ∃ v L, oo = .returned v ∧ Qr (.ref y) h0 n0 v U'.heap L ∧ FrameEnd UU oo U' L ({ frames := 2, cells := 0, slots := 0, locals := 27 } : Room).cells ({ frames := 2, cells := 0, slots := 0, locals := 27 } : Room).slots) := by
  refine MetFree.of_bodySF (plainFor_of_name pn_2) hisR ?_
  intro p e s m args below meth c s₁ Bd hml0 hP hK
  obtain ⟨rfl, hZ, hh⟩ := hP
  have hx := Bd.exec
  have hby := Bd.bytes
  have hml : c.maxLocals = 2 := hml0
  have hown : s.vm.findClass "java/util/ArrayList" = some m.cls := findClass_of_methodNamed Bd.named
  have hnm := (name_of_methodNamed Bd.named Bd.method).1
  have X0 : Stand p l e ({ frames := 2, cells := 0, slots := 0, locals := 27 } : Room) s m #[(.ref a), (.int (1 : Int32))] below meth c s₁ [] 0 0 := Stand.of_body Bd
  have e0 : s₁.heap = h0 := by rw [← hh, Bd.state]; rfl
  have N0 := Fr.nil n0
  obtain ⟨A0, hA0⟩ : ∃ A, A = s₁.setTop (entryFrame m #[(.ref a), (.int (1 : Int32))] 2) := ⟨_, rfl⟩
  have G0 : Go p e below A0 (s₁.setTop (mkF m 0 #[.val (.ref a), .val (.int (1 : Int32))] [])) := fun tq kq => by rw [hA0]; exact castTop (ef_rmGT1 m a (1 : Int32)) kq
  have G190 : Go p e below A0 (s₁.setTop (mkF m 2 #[.val (.ref a), .val (.int (1 : Int32))] [(.ref a), (.int (1 : Int32))])) := fun tq kq => G0 tq (by
    refine XS.iloadN X0.here hx rfl (hb hby d13_0) rfl ?_
    show Steps p.tables e below (s₁.setTop (mkF m 1 #[.val (.ref a), .val (.int (1 : Int32))] [(.int (1 : Int32))])) _
    refine XS.aloadN X0.here hx rfl (hb hby d13_1) rfl rfl ?_
    show Steps p.tables e below (s₁.setTop (mkF m 2 #[.val (.ref a), .val (.int (1 : Int32))] [(.ref a), (.int (1 : Int32))])) _
    exact kq)
  obtain ⟨T191, X191, e191, st191⟩ := getF X0 hx hZ hown (host := "") (Or.inl (hw _ (List.mem_of_getElem? (i := 60) rfl))) Via.refl e0 F2 (g := (mkF m 2 #[.val (.ref a), .val (.int (1 : Int32))] [(.ref a), (.int (1 : Int32))])) rfl rfl (hb hby d13_2)
  have G192 : Go p e below A0 (T191.setTop (mkF m 5 #[.val (.ref a), .val (.int (1 : Int32))] [(.int (2 : Int32)), (.int (1 : Int32))])) := fun tq kq => G190 tq (st191 _ kq)
  obtain ⟨_, _, ⟨T193, L193, k193, n193⟩, -, X193, ⟨Lc193, hQ193, l193, y193, z193⟩, st193⟩ := Jvm.LawKit.callS X191 hx (y := (⟨"java/util/Objects", "checkIndex", "(II)I"⟩ : MethodName)) hown (mvT hZ (hw _ (List.mem_of_getElem? (i := 121) rfl))) (mvT hZ (hw _ (List.mem_of_getElem? (i := 122) rfl))) (mvT hZ (hw _ (List.mem_of_getElem? (i := 123) rfl))) (mvT hZ (hw _ (List.mem_of_getElem? (i := 124) rfl))) (by decide) (backOf (W := 0) (rm14 l Z a0 hw [] (1 : Int32) (2 : Int32) h0 n0 Z0 ⟨by decide, by decide⟩) hZ (hw _ (List.mem_of_getElem? (i := 124) rfl)) (hw _ (List.mem_of_getElem? (i := 123) rfl)) (by decide) (by decide)) (g := (mkF m 5 #[.val (.ref a), .val (.int (1 : Int32))] [(.int (2 : Int32)), (.int (1 : Int32))])) rfl (by rw [hml]; rfl) (argsL := [(.int (1 : Int32)), (.int (2 : Int32))]) (rest := []) (lenOf pd_1 rfl) rfl (by show 2 * 0 + _ ≤ _; exact Nat.le_of_eq rfl) (hb hby d13_5) (fun _ _ => ⟨rfl, e191, (by decide : 0 + 0 ≤ _), (by decide : 0 + 0 ≤ _)⟩)
  dsimp only [Pt.U, Pt.locs, Pt.cells, Pt.slots] at X193 l193 y193 z193 st193 hQ193
  obtain rfl : k193 = 0 := y193
  obtain rfl : n193 = 0 := z193
  obtain ⟨rfl, N193q, e193⟩ := hQ193
  have N193 : Fr n0 L193 := by rw [l193]; exact Fr.app N0 N193q
  have G194 : Go p e below A0 (T193.setTop (mkF m 8 #[.val (.ref a), .val (.int (1 : Int32))] [(.int (1 : Int32))])) := fun tq kq => G192 tq (st193 _ kq)
  have G195 : Go p e below A0 (T193.setTop (mkF m 11 #[.val (.ref a), .val (.int (1 : Int32))] [(.int (1 : Int32)), (.ref a)])) := fun tq kq => G194 tq (by
    refine XS.pop X193.here hx rfl (hb hby d13_8) rfl rfl ?_
    show Steps p.tables e below (T193.setTop (mkF m 9 #[.val (.ref a), .val (.int (1 : Int32))] [])) _
    refine XS.aloadN X193.here hx rfl (hb hby d13_9) rfl rfl ?_
    show Steps p.tables e below (T193.setTop (mkF m 10 #[.val (.ref a), .val (.int (1 : Int32))] [(.ref a)])) _
    refine XS.iloadN X193.here hx rfl (hb hby d13_10) rfl ?_
    show Steps p.tables e below (T193.setTop (mkF m 11 #[.val (.ref a), .val (.int (1 : Int32))] [(.int (1 : Int32)), (.ref a)])) _
    exact kq)
  obtain ⟨cq196, kq196, q196a, q196b, q196c⟩ := isOf hZ e193 E
  obtain ⟨_, _, ⟨T196, L196, k196, n196⟩, -, X196, ⟨Lc196, hQ196, l196, y196, z196⟩, st196⟩ := X193.virtualBack hx (y := (⟨"java/util/ArrayList", "elementData", "(I)Ljava/lang/Object;"⟩ : MethodName)) (z := (⟨"java/util/ArrayList", "elementData", "(I)Ljava/lang/Object;"⟩ : MethodName)) hown (mvT hZ (hw _ (List.mem_of_getElem? (i := 129) rfl))) (mvT hZ (hw _ (List.mem_of_getElem? (i := 130) rfl))) (notFace_of_selects (args := #[]) (mvT hZ (hw _ (List.mem_of_getElem? (i := 132) rfl)))) (mvT hZ (hw _ (List.mem_of_getElem? (i := 132) rfl))) (mvT hZ (hw _ (List.mem_of_getElem? (i := 131) rfl))) (by decide) (backOf (W := 0) (rmED1 l Z a0 hw [] a b x y kb h0 n0 Z0 E F1 F2 A) hZ (hw _ (List.mem_of_getElem? (i := 133) rfl)) (hw _ (List.mem_of_getElem? (i := 3) rfl)) (by decide) (by decide)) q196a q196c (g := (mkF m 11 #[.val (.ref a), .val (.int (1 : Int32))] [(.int (1 : Int32)), (.ref a)])) rfl (by rw [hml]; rfl) (Steps.refl _) (argsL := [(.int (1 : Int32))]) (rest := []) (lenOf pd_6 rfl) rfl (by show 2 * 0 + _ ≤ _; exact Nat.le_of_eq rfl) (hb hby d13_11) (fun _ _ => ⟨rfl, e193, (by decide : 0 + 0 ≤ _), (by decide : 0 + 0 ≤ _)⟩)
  dsimp only [Pt.U, Pt.locs, Pt.cells, Pt.slots] at X196 l196 y196 z196 st196 hQ196
  obtain rfl : k196 = 0 := y196
  obtain rfl : n196 = 0 := z196
  obtain ⟨rfl, N196q, e196⟩ := hQ196
  have N196 : Fr n0 L196 := by rw [l196]; exact Fr.app N193 N196q
  have G197 : Go p e below A0 (T196.setTop (mkF m 14 #[.val (.ref a), .val (.int (1 : Int32))] [(.ref y)])) := fun tq kq => G195 tq (st196.trans kq)
  obtain ⟨fs, hr, hrun, hended, hW, hsame⟩ := X196.leave (v := some (.ref y)) (fun h => by rw [Bd.returns] at h; cases h)
  refine ⟨_, _, (by rw [← hA0]; exact G197 _ (retOut X196 hx (t := (.object "java/lang/Object")) Bd.returns rfl (Or.inr (Or.inr (Or.inr (Or.inr ⟨rfl, rfl, rfl⟩)))) (hb hby d13_14) hr)), hrun, hended, _, _, rfl, ?_, ⟨_, rfl⟩, hW, hsame.mono (by decide) (by decide)⟩
  exact ⟨rfl, N196, e196⟩
def Ai (Z : State) (h : Heap) (a : Addr) (n : Int32) (f : Nat → Int32) : Prop := ∃ k, Af Z h a k .int n (fun i => .int (f i))
def Ar2 (Z : State) (h : Heap) (a x y : Addr) : Prop := ∃ k, Arv Z h a k (.array .int) (2 : Int32) [.ref x, .ref y] .null
def own_up (f : Nat → Int32) (i : Nat) (v : Int32) : Nat → Int32 := fun j => if j = i then v else f j
def own_id (j : Nat) : Int32 := Int32.ofNat j
def own_zero (j : Nat) : Int32 := 0
def own_sz (j : Nat) : Int32 := if j = 0 then (3 : Int32) else (2 : Int32)
/-- the eleven objects stand one behind the other -/
def Ord (n0 : Nat) (d mem pos siz mrk m0 p0 k0 m1 p1 k1 : Addr) : Prop := @LE.le Nat _ n0 d ∧ @LT.lt Nat _ d mem ∧ @LT.lt Nat _ mem pos ∧ @LT.lt Nat _ pos siz ∧ @LT.lt Nat _ siz mrk ∧ @LT.lt Nat _ mrk m0 ∧ @LT.lt Nat _ m0 p0 ∧ @LT.lt Nat _ p0 k0 ∧ @LT.lt Nat _ k0 m1 ∧ @LT.lt Nat _ m1 p1 ∧ @LT.lt Nat _ p1 k1
def Dom (Z : State) (h : Heap) (d mem pos siz mrk m0 p0 k0 m1 p1 k1 : Addr) (rd : Int32) (fsz fm0 fp0 fk0 fm1 fp1 fk1 : Nat → Int32) : Prop := Exa Z h d "com/example/ludarc/ludarc/engine/Domains" ∧ Fld Z h d "com/example/ludarc/ludarc/engine/Domains" "round" "I" (.int rd) ∧ Fld Z h d "com/example/ludarc/ludarc/engine/Domains" "members" "[[I" (.ref mem) ∧ Fld Z h d "com/example/ludarc/ludarc/engine/Domains" "positions" "[[I" (.ref pos) ∧ Fld Z h d "com/example/ludarc/ludarc/engine/Domains" "sizes" "[I" (.ref siz) ∧ Fld Z h d "com/example/ludarc/ludarc/engine/Domains" "marks" "[[I" (.ref mrk) ∧ Ar2 Z h mem m0 m1 ∧ Ar2 Z h pos p0 p1 ∧ Ar2 Z h mrk k0 k1 ∧ Ai Z h siz (2 : Int32) fsz ∧ Ai Z h m0 (3 : Int32) fm0 ∧ Ai Z h p0 (3 : Int32) fp0 ∧ Ai Z h k0 (3 : Int32) fk0 ∧ Ai Z h m1 (2 : Int32) fm1 ∧ Ai Z h p1 (2 : Int32) fp1 ∧ Ai Z h k1 (2 : Int32) fk1
theorem own_ai {Z : State} {h : Heap} {a : Addr} {k : ClassId} {n : Int32} {vs : List Value} {f : Nat → Int32} (F : Arv Z h a k .int n vs (.int (0 : Int32))) (e : ∀ j, j < n.toNatClampNeg → vs.getD j (.int (0 : Int32)) = .int (f j)) : Ai Z h a n f := ⟨k, (Af.of F).fn e⟩
def Qd (Z : State) (d : Addr) (h0 : Heap) (n0 : Nat) (v : Option Value) (h : Heap) (L : List Loc) : Prop := ∃ mem pos siz mrk m0 p0 k0 m1 p1 k1, v = none ∧ Fr n0 L ∧ Keep h0 h [d] ∧ h0.size ≤ mem ∧ Ord n0 d mem pos siz mrk m0 p0 k0 m1 p1 k1 ∧ Dom Z h d mem pos siz mrk m0 p0 k0 m1 p1 k1 (1 : Int32) own_sz own_id own_id own_zero own_id own_id own_zero
theorem own_lid2 : ∀ j, j < (2 : Int32).toNatClampNeg → ([(.int (0 : Int32)), (.int (1 : Int32))] : List Value).getD j (.int (0 : Int32)) = .int (own_id j) := by
  intro j hj
  have hj' : j < 2 := hj
  match j, hj' with
  | 0, _ => rfl
  | 1, _ => rfl
theorem own_lz2 : ∀ j, j < (2 : Int32).toNatClampNeg → ([(.int (0 : Int32)), (.int (0 : Int32))] : List Value).getD j (.int (0 : Int32)) = .int (own_zero j) := by
  intro j hj
  have hj' : j < 2 := hj
  match j, hj' with
  | 0, _ => rfl
  | 1, _ => rfl
theorem own_lid3 : ∀ j, j < (3 : Int32).toNatClampNeg → ([(.int (0 : Int32)), (.int (1 : Int32)), (.int (2 : Int32))] : List Value).getD j (.int (0 : Int32)) = .int (own_id j) := by
  intro j hj
  have hj' : j < 3 := hj
  match j, hj' with
  | 0, _ => rfl
  | 1, _ => rfl
  | 2, _ => rfl
theorem own_lz3 : ∀ j, j < (3 : Int32).toNatClampNeg → ([(.int (0 : Int32)), (.int (0 : Int32)), (.int (0 : Int32))] : List Value).getD j (.int (0 : Int32)) = .int (own_zero j) := by
  intro j hj
  have hj' : j < 3 := hj
  match j, hj' with
  | 0, _ => rfl
  | 1, _ => rfl
  | 2, _ => rfl
theorem own_lsz : ∀ j, j < (2 : Int32).toNatClampNeg → ([(.int (3 : Int32)), (.int (2 : Int32))] : List Value).getD j (.int (0 : Int32)) = .int (own_sz j) := by
  intro j hj
  have hj' : j < 2 := hj
  match j, hj' with
  | 0, _ => rfl
  | 1, _ => rfl
set_option maxRecDepth 65536 in
set_option maxHeartbeats 40000000 in
theorem rm11 (l : Launch) (Z : State) (a0 : Array Value) (hw : ∀ d ∈ tables_1, d.before a0 Z = true) (ws : List Jvm.Cond) (d a b x y cx cy : Addr) (kb kx ky : ClassId) (vsx vsy : List Value) (h0 : Heap) (n0 : Nat) (Z0 : n0 ≤ h0.size) (Ed : Exa Z h0 d "com/example/ludarc/ludarc/engine/Domains") (gd : n0 ≤ d) (D0_ : Fld Z h0 d "com/example/ludarc/ludarc/engine/Domains" "round" "I" (.int (0 : Int32))) (D1_ : Fld Z h0 d "com/example/ludarc/ludarc/engine/Domains" "members" "[[I" .null) (D2_ : Fld Z h0 d "com/example/ludarc/ludarc/engine/Domains" "positions" "[[I" .null) (D3_ : Fld Z h0 d "com/example/ludarc/ludarc/engine/Domains" "sizes" "[I" .null) (D4_ : Fld Z h0 d "com/example/ludarc/ludarc/engine/Domains" "marks" "[[I" .null) (E : Exa Z h0 a "java/util/ArrayList") (F1 : Fld Z h0 a "java/util/ArrayList" "elementData" "[Ljava/lang/Object;" (.ref b)) (F2 : Fld Z h0 a "java/util/ArrayList" "size" "I" (.int (2 : Int32))) (A : Arv Z h0 b kb (.object "java/lang/Object") (10 : Int32) [(.ref x), (.ref y), .null, .null, .null, .null, .null, .null, .null, .null] .null) (Ex : Exa Z h0 x "com/example/ludarc/ludarc/engine/Variable") (Fx : Fld Z h0 x "com/example/ludarc/ludarc/engine/Variable" "values" "[I" (.ref cx)) (Ax : Arv Z h0 cx kx .int (3 : Int32) vsx (.int (0 : Int32))) (Ey : Exa Z h0 y "com/example/ludarc/ludarc/engine/Variable") (Fy : Fld Z h0 y "com/example/ludarc/ludarc/engine/Variable" "values" "[I" (.ref cy)) (Ay : Arv Z h0 cy ky .int (2 : Int32) vsy (.int (0 : Int32))) (hn_a : d ≠ a) (hn_b : d ≠ b) (hn_x : d ≠ x) (hn_y : d ≠ y) (hn_cx : d ≠ cx) (hn_cy : d ≠ cy) :
    MetFree l (⟨"com/example/ludarc/ludarc/engine/Domains", "<init>", "(Ljava/util/List;)V"⟩ : MethodName) (head1 (Jvm.Cond.code (⟨"com/example/ludarc/ludarc/engine/Domains", "<init>", "(Ljava/util/List;)V"⟩ : MethodName) prog_5_method_1_code 5 none :: ws) ({ frames := 3, cells := 10, slots := 23, locals := 40 } : Room)) (fun aa UU => aa = #[(.ref d), (.ref a)] ∧ Z.Warmed39 UU.vm ∧ UU.heap = h0) (fun _ _ _ _ _ => True) (fun _ UU oo U' => ∃ v L, oo = .returned v ∧ Qd Z d h0 n0 v U'.heap L ∧ FrameEnd UU oo U' L ({ frames := 3, cells := 10, slots := 23, locals := 40 } : Room).cells ({ frames := 3, cells := 10, slots := 23, locals := 40 } : Room).slots) := by
  refine MetFree.of_bodySF (plainFor_of_name pn_6) hisR ?_
  intro p e s m args below meth c s₁ Bd hml0 hP hK
  obtain ⟨rfl, hZ, hh⟩ := hP
  have hx := Bd.exec
  have hby := Bd.bytes
  have hml : c.maxLocals = 5 := hml0
  have hown : s.vm.findClass "com/example/ludarc/ludarc/engine/Domains" = some m.cls := findClass_of_methodNamed Bd.named
  have hnm := (name_of_methodNamed Bd.named Bd.method).1
  have X0 : Stand p l e ({ frames := 3, cells := 10, slots := 23, locals := 40 } : Room) s m #[(.ref d), (.ref a)] below meth c s₁ [] 0 0 := Stand.of_body Bd
  have e0 : s₁.heap = h0 := by rw [← hh, Bd.state]; rfl
  have N0 := Fr.nil n0
  obtain ⟨A0, hA0⟩ : ∃ A, A = s₁.setTop (entryFrame m #[(.ref d), (.ref a)] 5) := ⟨_, rfl⟩
  have G0 : Go p e below A0 (s₁.setTop (mkF m 0 #[.val (.ref d), .val (.ref a), .unset, .unset, .unset] [])) := fun tq kq => by rw [hA0]; exact castTop (ef_rm11 m d a) kq
  have G198 : Go p e below A0 (s₁.setTop (mkF m 1 #[.val (.ref d), .val (.ref a), .unset, .unset, .unset] [(.ref d)])) := fun tq kq => G0 tq (by
    refine XS.aloadN X0.here hx rfl (hb hby d11_0) rfl rfl ?_
    show Steps p.tables e below (s₁.setTop (mkF m 1 #[.val (.ref d), .val (.ref a), .unset, .unset, .unset] [(.ref d)])) _
    exact kq)
  obtain ⟨T199, X199, e199, st199⟩ := initO X0 hx hZ hown (hw _ (List.mem_of_getElem? (i := 91) rfl)) (hw _ (List.mem_of_getElem? (i := 20) rfl)) (hw _ (List.mem_of_getElem? (i := 21) rfl)) e0 (g := (mkF m 1 #[.val (.ref d), .val (.ref a), .unset, .unset, .unset] [(.ref d)])) rfl (by rw [hml]; rfl) rfl (hb hby d11_1) (by decide) (W := 0) (by show 2 * 0 + _ ≤ _; exact Nat.le_of_eq rfl) (by decide)
  have G200 : Go p e below A0 (T199.setTop (mkF m 4 #[.val (.ref d), .val (.ref a), .unset, .unset, .unset] [])) := fun tq kq => G198 tq (st199 _ kq)
  have G201 : Go p e below A0 (T199.setTop (mkF m 6 #[.val (.ref d), .val (.ref a), .unset, .unset, .unset] [(.int (1 : Int32)), (.ref d)])) := fun tq kq => G200 tq (by
    refine XS.aloadN X199.here hx rfl (hb hby d11_4) rfl rfl ?_
    show Steps p.tables e below (T199.setTop (mkF m 5 #[.val (.ref d), .val (.ref a), .unset, .unset, .unset] [(.ref d)])) _
    refine XS.iconst X199.here hx rfl (hb hby d11_5) ?_
    show Steps p.tables e below (T199.setTop (mkF m 6 #[.val (.ref d), .val (.ref a), .unset, .unset, .unset] [(.int (1 : Int32)), (.ref d)])) _
    exact kq)
  obtain ⟨T202, h202, X202, e202, W202, st202⟩ := putF X199 hx hZ hown (host := "") (Or.inl (hw _ (List.mem_of_getElem? (i := 92) rfl))) Via.refl e199 D0_ Ed (Or.inl (hw _ (List.mem_of_getElem? (i := 93) rfl))) (hw _ (List.mem_of_getElem? (i := 86) rfl)) (ty := .int) (by decide) rfl rfl (g := (mkF m 6 #[.val (.ref d), .val (.ref a), .unset, .unset, .unset] [(.int (1 : Int32)), (.ref d)])) rfl rfl (hb hby d11_6)
  have N202 := Fr.snoc X202 N0 gd
  have fw202 := D0_.same W202
  have G203 : Go p e below A0 (T202.setTop (mkF m 9 #[.val (.ref d), .val (.ref a), .unset, .unset, .unset] [])) := fun tq kq => G201 tq (st202 _ kq)
  have G204 : Go p e below A0 (T202.setTop (mkF m 11 #[.val (.ref d), .val (.ref a), .unset, .unset, .unset] [(.ref a), (.ref d)])) := fun tq kq => G203 tq (by
    refine XS.aloadN X202.here hx rfl (hb hby d11_9) rfl rfl ?_
    show Steps p.tables e below (T202.setTop (mkF m 10 #[.val (.ref d), .val (.ref a), .unset, .unset, .unset] [(.ref d)])) _
    refine XS.aloadN X202.here hx rfl (hb hby d11_10) rfl rfl ?_
    show Steps p.tables e below (T202.setTop (mkF m 11 #[.val (.ref d), .val (.ref a), .unset, .unset, .unset] [(.ref a), (.ref d)])) _
    exact kq)
  have f206 := (Nat.le_trans Z0 (Keep.of_wr W202).1)
  have f207 := (F2.other W202 (Or.inl (Ne.symm hn_a)))
  have f208 := (E.wr W202)
  obtain ⟨cq205, kq205, q205a, q205b, q205c⟩ := isOf hZ e202 f208
  obtain ⟨_, _, ⟨T205, L205, k205, n205⟩, -, X205, ⟨Lc205, hQ205, l205, y205, z205⟩, st205⟩ := X202.interfaceBack hx (xi := (⟨"java/util/List", "size", "()I"⟩ : MethodName)) (y := (⟨"java/util/ArrayList", "size", "()I"⟩ : MethodName)) hown (mvT hZ (hw _ (List.mem_of_getElem? (i := 94) rfl))) (mvT hZ (hw _ (List.mem_of_getElem? (i := 95) rfl))) (mvT hZ (hw _ (List.mem_of_getElem? (i := 96) rfl))) (mvT hZ (hw _ (List.mem_of_getElem? (i := 97) rfl))) (mvT hZ (hw _ (List.mem_of_getElem? (i := 98) rfl))) (mvT hZ (hw _ (List.mem_of_getElem? (i := 99) rfl))) (mvT hZ (hw _ (List.mem_of_getElem? (i := 100) rfl))) (mvT hZ (hw _ (List.mem_of_getElem? (i := 101) rfl))) (by decide) (backOf (W := 1) (rm12 l Z a0 hw [] a (2 : Int32) h202 n0 f206 f207) hZ (hw _ (List.mem_of_getElem? (i := 102) rfl)) (hw _ (List.mem_of_getElem? (i := 3) rfl)) (by decide) (by decide)) q205a q205b q205c (g := (mkF m 11 #[.val (.ref d), .val (.ref a), .unset, .unset, .unset] [(.ref a), (.ref d)])) rfl (by rw [hml]; rfl) (Steps.refl _) (argsL := []) (rest := [(.ref d)]) (lenOf pd_7 rfl) rfl (by show 2 * 0 + _ ≤ _; exact Nat.le_of_eq rfl) (hb hby d11_11) (fun _ _ => ⟨rfl, e202, (by decide : 0 + 0 ≤ _), (by decide : 0 + 0 ≤ _)⟩)
  dsimp only [Pt.U, Pt.locs, Pt.cells, Pt.slots] at X205 l205 y205 z205 st205 hQ205
  obtain rfl : k205 = 0 := y205
  obtain rfl : n205 = 0 := z205
  obtain ⟨rfl, N205q, e205⟩ := hQ205
  have N205 : Fr n0 L205 := by rw [l205]; exact Fr.app N202 N205q
  have G209 : Go p e below A0 (T205.setTop (mkF m 16 #[.val (.ref d), .val (.ref a), .unset, .unset, .unset] [(.int (2 : Int32)), (.ref d)])) := fun tq kq => G204 tq (st205.trans kq)
  obtain ⟨T210, h210, k210, X210, e210, E210, A210, -, O210, st210⟩ := newRA X205 hx hZ hown (C := "[I") (by decide) (hw _ (List.mem_of_getElem? (i := 103) rfl)) (hw _ (List.mem_of_getElem? (i := 104) rfl)) e205 (g := (mkF m 16 #[.val (.ref d), .val (.ref a), .unset, .unset, .unset] [(.int (2 : Int32)), (.ref d)])) rfl (hb hby d11_16) rfl (by decide) (cap := 2) (by decide) (by decide) (by decide) (by decide) (ad := "[[I") (by decide)
  obtain ⟨b210, g210⟩ : ∃ z, z = h202.size := ⟨_, rfl⟩
  rw [← g210] at A210 st210
  have f211 := (Nat.le_trans (Nat.le_refl h0.size) (Keep.of_wr W202).1)
  have sz_b210 : h0.size ≤ b210 := Nat.le_trans f211 (Nat.le_of_eq g210.symm)
  have g_b210 : n0 ≤ b210 := Nat.le_trans f206 (Nat.le_of_eq g210.symm)
  have lt_d_b210 : d < b210 := Nat.lt_of_lt_of_le (Ed.wr W202).lt (Nat.le_of_eq g210.symm)
  have lt_a_b210 : a < b210 := Nat.lt_of_lt_of_le f208.lt (Nat.le_of_eq g210.symm)
  have lt_b_b210 : b < b210 := Nat.lt_of_lt_of_le (A.other W202 (Ne.symm hn_b)).lt (Nat.le_of_eq g210.symm)
  have lt_x_b210 : x < b210 := Nat.lt_of_lt_of_le (Ex.wr W202).lt (Nat.le_of_eq g210.symm)
  have lt_cx_b210 : cx < b210 := Nat.lt_of_lt_of_le (Ax.other W202 (Ne.symm hn_cx)).lt (Nat.le_of_eq g210.symm)
  have lt_y_b210 : y < b210 := Nat.lt_of_lt_of_le (Ey.wr W202).lt (Nat.le_of_eq g210.symm)
  have lt_cy_b210 : cy < b210 := Nat.lt_of_lt_of_le (Ay.other W202 (Ne.symm hn_cy)).lt (Nat.le_of_eq g210.symm)
  have V210 : Arv Z h210 b210 k210 (.array .int) (2 : Int32) [.null, .null] .null := (Arv.new A210 (by decide)).pad (pad_rep [] .null 2)
  have G212 : Go p e below A0 (T210.setTop (mkF m 19 #[.val (.ref d), .val (.ref a), .unset, .unset, .unset] [(.ref b210), (.ref d)])) := fun tq kq => G209 tq (st210 _ kq)
  have f213 := ((Ed.wr W202).ext E210)
  have f214 := ((D1_.other W202 (Or.inr (slot_ne (Or.inr (hw _ (List.mem_of_getElem? (i := 106) rfl))) (Or.inl (hw _ (List.mem_of_getElem? (i := 93) rfl))) (by decide) (t := (.array (.array .int))) (t' := .int) (by decide) (by decide)))).ext E210)
  obtain ⟨T215, h215, X215, e215, W215, st215⟩ := putF X210 hx hZ hown (host := "") (Or.inl (hw _ (List.mem_of_getElem? (i := 105) rfl))) Via.refl e210 f214 f213 (Or.inr ⟨(hw _ (List.mem_of_getElem? (i := 106) rfl)), rfl, hnm⟩) (hw _ (List.mem_of_getElem? (i := 86) rfl)) (ty := (.array (.array .int))) (by decide) rfl rfl (g := (mkF m 19 #[.val (.ref d), .val (.ref a), .unset, .unset, .unset] [(.ref b210), (.ref d)])) rfl rfl (hb hby d11_19)
  have N215 := Fr.snoc X215 N205 gd
  have fw215 := f214.same W215
  have G216 : Go p e below A0 (T215.setTop (mkF m 22 #[.val (.ref d), .val (.ref a), .unset, .unset, .unset] [])) := fun tq kq => G212 tq (st215 _ kq)
  have G217 : Go p e below A0 (T215.setTop (mkF m 24 #[.val (.ref d), .val (.ref a), .unset, .unset, .unset] [(.ref a), (.ref d)])) := fun tq kq => G216 tq (by
    refine XS.aloadN X215.here hx rfl (hb hby d11_22) rfl rfl ?_
    show Steps p.tables e below (T215.setTop (mkF m 23 #[.val (.ref d), .val (.ref a), .unset, .unset, .unset] [(.ref d)])) _
    refine XS.aloadN X215.here hx rfl (hb hby d11_23) rfl rfl ?_
    show Steps p.tables e below (T215.setTop (mkF m 24 #[.val (.ref d), .val (.ref a), .unset, .unset, .unset] [(.ref a), (.ref d)])) _
    exact kq)
  have f219 := (Nat.le_trans (Nat.le_trans f206 E210.1) (Keep.of_wr W215).1)
  have f220 := ((f207.ext E210).other W215 (Or.inl (Ne.symm hn_a)))
  have f221 := ((f208.ext E210).wr W215)
  obtain ⟨cq218, kq218, q218a, q218b, q218c⟩ := isOf hZ e215 f221
  obtain ⟨_, _, ⟨T218, L218, k218, n218⟩, -, X218, ⟨Lc218, hQ218, l218, y218, z218⟩, st218⟩ := X215.interfaceBack hx (xi := (⟨"java/util/List", "size", "()I"⟩ : MethodName)) (y := (⟨"java/util/ArrayList", "size", "()I"⟩ : MethodName)) hown (mvT hZ (hw _ (List.mem_of_getElem? (i := 94) rfl))) (mvT hZ (hw _ (List.mem_of_getElem? (i := 95) rfl))) (mvT hZ (hw _ (List.mem_of_getElem? (i := 96) rfl))) (mvT hZ (hw _ (List.mem_of_getElem? (i := 97) rfl))) (mvT hZ (hw _ (List.mem_of_getElem? (i := 98) rfl))) (mvT hZ (hw _ (List.mem_of_getElem? (i := 99) rfl))) (mvT hZ (hw _ (List.mem_of_getElem? (i := 100) rfl))) (mvT hZ (hw _ (List.mem_of_getElem? (i := 101) rfl))) (by decide) (backOf (W := 1) (rm12 l Z a0 hw [] a (2 : Int32) h215 n0 f219 f220) hZ (hw _ (List.mem_of_getElem? (i := 102) rfl)) (hw _ (List.mem_of_getElem? (i := 3) rfl)) (by decide) (by decide)) q218a q218b q218c (g := (mkF m 24 #[.val (.ref d), .val (.ref a), .unset, .unset, .unset] [(.ref a), (.ref d)])) rfl (by rw [hml]; rfl) (Steps.refl _) (argsL := []) (rest := [(.ref d)]) (lenOf pd_7 rfl) rfl (by show 2 * 0 + _ ≤ _; exact Nat.le_of_eq rfl) (hb hby d11_24) (fun _ _ => ⟨rfl, e215, (by decide : 1 + 0 ≤ _), (by decide : 2 + 0 ≤ _)⟩)
  dsimp only [Pt.U, Pt.locs, Pt.cells, Pt.slots] at X218 l218 y218 z218 st218 hQ218
  obtain rfl : k218 = 1 := y218
  obtain rfl : n218 = 2 := z218
  obtain ⟨rfl, N218q, e218⟩ := hQ218
  have N218 : Fr n0 L218 := by rw [l218]; exact Fr.app N215 N218q
  have G222 : Go p e below A0 (T218.setTop (mkF m 29 #[.val (.ref d), .val (.ref a), .unset, .unset, .unset] [(.int (2 : Int32)), (.ref d)])) := fun tq kq => G217 tq (st218.trans kq)
  obtain ⟨T223, h223, k223, X223, e223, E223, A223, -, O223, st223⟩ := newRA X218 hx hZ hown (C := "[I") (by decide) (hw _ (List.mem_of_getElem? (i := 103) rfl)) (hw _ (List.mem_of_getElem? (i := 104) rfl)) e218 (g := (mkF m 29 #[.val (.ref d), .val (.ref a), .unset, .unset, .unset] [(.int (2 : Int32)), (.ref d)])) rfl (hb hby d11_29) rfl (by decide) (cap := 2) (by decide) (by decide) (by decide) (by decide) (ad := "[[I") (by decide)
  obtain ⟨b223, g223⟩ : ∃ z, z = h215.size := ⟨_, rfl⟩
  rw [← g223] at A223 st223
  have f224 := (Nat.le_trans (Nat.le_trans f211 E210.1) (Keep.of_wr W215).1)
  have sz_b223 : h0.size ≤ b223 := Nat.le_trans f224 (Nat.le_of_eq g223.symm)
  have g_b223 : n0 ≤ b223 := Nat.le_trans f219 (Nat.le_of_eq g223.symm)
  have lt_d_b223 : d < b223 := Nat.lt_of_lt_of_le (f213.wr W215).lt (Nat.le_of_eq g223.symm)
  have lt_a_b223 : a < b223 := Nat.lt_of_lt_of_le f221.lt (Nat.le_of_eq g223.symm)
  have lt_b_b223 : b < b223 := Nat.lt_of_lt_of_le (((A.other W202 (Ne.symm hn_b)).ext E210).other W215 (Ne.symm hn_b)).lt (Nat.le_of_eq g223.symm)
  have lt_x_b223 : x < b223 := Nat.lt_of_lt_of_le (((Ex.wr W202).ext E210).wr W215).lt (Nat.le_of_eq g223.symm)
  have lt_cx_b223 : cx < b223 := Nat.lt_of_lt_of_le (((Ax.other W202 (Ne.symm hn_cx)).ext E210).other W215 (Ne.symm hn_cx)).lt (Nat.le_of_eq g223.symm)
  have lt_y_b223 : y < b223 := Nat.lt_of_lt_of_le (((Ey.wr W202).ext E210).wr W215).lt (Nat.le_of_eq g223.symm)
  have lt_cy_b223 : cy < b223 := Nat.lt_of_lt_of_le (((Ay.other W202 (Ne.symm hn_cy)).ext E210).other W215 (Ne.symm hn_cy)).lt (Nat.le_of_eq g223.symm)
  have lt_b210_b223 : b210 < b223 := Nat.lt_of_lt_of_le (V210.other W215 (Ne.symm (Nat.ne_of_lt lt_d_b210))).lt (Nat.le_of_eq g223.symm)
  have V223 : Arv Z h223 b223 k223 (.array .int) (2 : Int32) [.null, .null] .null := (Arv.new A223 (by decide)).pad (pad_rep [] .null 2)
  have G225 : Go p e below A0 (T223.setTop (mkF m 32 #[.val (.ref d), .val (.ref a), .unset, .unset, .unset] [(.ref b223), (.ref d)])) := fun tq kq => G222 tq (st223 _ kq)
  have f226 := ((f213.wr W215).ext E223)
  have f227 := ((((D2_.other W202 (Or.inr (slot_ne (Or.inr (hw _ (List.mem_of_getElem? (i := 108) rfl))) (Or.inl (hw _ (List.mem_of_getElem? (i := 93) rfl))) (by decide) (t := (.array (.array .int))) (t' := .int) (by decide) (by decide)))).ext E210).other W215 (Or.inr (slot_ne (Or.inr (hw _ (List.mem_of_getElem? (i := 108) rfl))) (Or.inr (hw _ (List.mem_of_getElem? (i := 106) rfl))) (by decide) (t := (.array (.array .int))) (t' := (.array (.array .int))) (by decide) (by decide)))).ext E223)
  obtain ⟨T228, h228, X228, e228, W228, st228⟩ := putF X223 hx hZ hown (host := "") (Or.inl (hw _ (List.mem_of_getElem? (i := 107) rfl))) Via.refl e223 f227 f226 (Or.inr ⟨(hw _ (List.mem_of_getElem? (i := 108) rfl)), rfl, hnm⟩) (hw _ (List.mem_of_getElem? (i := 86) rfl)) (ty := (.array (.array .int))) (by decide) rfl rfl (g := (mkF m 32 #[.val (.ref d), .val (.ref a), .unset, .unset, .unset] [(.ref b223), (.ref d)])) rfl rfl (hb hby d11_32)
  have N228 := Fr.snoc X228 N218 gd
  have fw228 := f227.same W228
  have G229 : Go p e below A0 (T228.setTop (mkF m 35 #[.val (.ref d), .val (.ref a), .unset, .unset, .unset] [])) := fun tq kq => G225 tq (st228 _ kq)
  have G230 : Go p e below A0 (T228.setTop (mkF m 37 #[.val (.ref d), .val (.ref a), .unset, .unset, .unset] [(.ref a), (.ref d)])) := fun tq kq => G229 tq (by
    refine XS.aloadN X228.here hx rfl (hb hby d11_35) rfl rfl ?_
    show Steps p.tables e below (T228.setTop (mkF m 36 #[.val (.ref d), .val (.ref a), .unset, .unset, .unset] [(.ref d)])) _
    refine XS.aloadN X228.here hx rfl (hb hby d11_36) rfl rfl ?_
    show Steps p.tables e below (T228.setTop (mkF m 37 #[.val (.ref d), .val (.ref a), .unset, .unset, .unset] [(.ref a), (.ref d)])) _
    exact kq)
  have f232 := (Nat.le_trans (Nat.le_trans f219 E223.1) (Keep.of_wr W228).1)
  have f233 := ((f220.ext E223).other W228 (Or.inl (Ne.symm hn_a)))
  have f234 := ((f221.ext E223).wr W228)
  obtain ⟨cq231, kq231, q231a, q231b, q231c⟩ := isOf hZ e228 f234
  obtain ⟨_, _, ⟨T231, L231, k231, n231⟩, -, X231, ⟨Lc231, hQ231, l231, y231, z231⟩, st231⟩ := X228.interfaceBack hx (xi := (⟨"java/util/List", "size", "()I"⟩ : MethodName)) (y := (⟨"java/util/ArrayList", "size", "()I"⟩ : MethodName)) hown (mvT hZ (hw _ (List.mem_of_getElem? (i := 94) rfl))) (mvT hZ (hw _ (List.mem_of_getElem? (i := 95) rfl))) (mvT hZ (hw _ (List.mem_of_getElem? (i := 96) rfl))) (mvT hZ (hw _ (List.mem_of_getElem? (i := 97) rfl))) (mvT hZ (hw _ (List.mem_of_getElem? (i := 98) rfl))) (mvT hZ (hw _ (List.mem_of_getElem? (i := 99) rfl))) (mvT hZ (hw _ (List.mem_of_getElem? (i := 100) rfl))) (mvT hZ (hw _ (List.mem_of_getElem? (i := 101) rfl))) (by decide) (backOf (W := 1) (rm12 l Z a0 hw [] a (2 : Int32) h228 n0 f232 f233) hZ (hw _ (List.mem_of_getElem? (i := 102) rfl)) (hw _ (List.mem_of_getElem? (i := 3) rfl)) (by decide) (by decide)) q231a q231b q231c (g := (mkF m 37 #[.val (.ref d), .val (.ref a), .unset, .unset, .unset] [(.ref a), (.ref d)])) rfl (by rw [hml]; rfl) (Steps.refl _) (argsL := []) (rest := [(.ref d)]) (lenOf pd_7 rfl) rfl (by show 2 * 0 + _ ≤ _; exact Nat.le_of_eq rfl) (hb hby d11_37) (fun _ _ => ⟨rfl, e228, (by decide : 2 + 0 ≤ _), (by decide : 4 + 0 ≤ _)⟩)
  dsimp only [Pt.U, Pt.locs, Pt.cells, Pt.slots] at X231 l231 y231 z231 st231 hQ231
  obtain rfl : k231 = 2 := y231
  obtain rfl : n231 = 4 := z231
  obtain ⟨rfl, N231q, e231⟩ := hQ231
  have N231 : Fr n0 L231 := by rw [l231]; exact Fr.app N228 N231q
  have G235 : Go p e below A0 (T231.setTop (mkF m 42 #[.val (.ref d), .val (.ref a), .unset, .unset, .unset] [(.int (2 : Int32)), (.ref d)])) := fun tq kq => G230 tq (st231.trans kq)
  obtain ⟨T236, h236, k236, X236, e236, E236, A236, Ex236, st236⟩ := newPE X231 hx hZ (hw _ (List.mem_of_getElem? (i := 38) rfl)) e231 (g := (mkF m 42 #[.val (.ref d), .val (.ref a), .unset, .unset, .unset] [(.int (2 : Int32)), (.ref d)])) rfl (hb hby d11_42) rfl (by decide) (cap := 2) (by decide) (by decide) (by decide) (by decide) (ad := "[I") (by decide)
  obtain ⟨b236, g236⟩ : ∃ z, z = h228.size := ⟨_, rfl⟩
  rw [← g236] at A236 st236 Ex236
  have f237 := (Nat.le_trans (Nat.le_trans f224 E223.1) (Keep.of_wr W228).1)
  have sz_b236 : h0.size ≤ b236 := Nat.le_trans f237 (Nat.le_of_eq g236.symm)
  have g_b236 : n0 ≤ b236 := Nat.le_trans f232 (Nat.le_of_eq g236.symm)
  have lt_d_b236 : d < b236 := Nat.lt_of_lt_of_le (f226.wr W228).lt (Nat.le_of_eq g236.symm)
  have lt_a_b236 : a < b236 := Nat.lt_of_lt_of_le f234.lt (Nat.le_of_eq g236.symm)
  have lt_b_b236 : b < b236 := Nat.lt_of_lt_of_le (((((A.other W202 (Ne.symm hn_b)).ext E210).other W215 (Ne.symm hn_b)).ext E223).other W228 (Ne.symm hn_b)).lt (Nat.le_of_eq g236.symm)
  have lt_x_b236 : x < b236 := Nat.lt_of_lt_of_le (((((Ex.wr W202).ext E210).wr W215).ext E223).wr W228).lt (Nat.le_of_eq g236.symm)
  have lt_cx_b236 : cx < b236 := Nat.lt_of_lt_of_le (((((Ax.other W202 (Ne.symm hn_cx)).ext E210).other W215 (Ne.symm hn_cx)).ext E223).other W228 (Ne.symm hn_cx)).lt (Nat.le_of_eq g236.symm)
  have lt_y_b236 : y < b236 := Nat.lt_of_lt_of_le (((((Ey.wr W202).ext E210).wr W215).ext E223).wr W228).lt (Nat.le_of_eq g236.symm)
  have lt_cy_b236 : cy < b236 := Nat.lt_of_lt_of_le (((((Ay.other W202 (Ne.symm hn_cy)).ext E210).other W215 (Ne.symm hn_cy)).ext E223).other W228 (Ne.symm hn_cy)).lt (Nat.le_of_eq g236.symm)
  have lt_b210_b236 : b210 < b236 := Nat.lt_of_lt_of_le (((V210.other W215 (Ne.symm (Nat.ne_of_lt lt_d_b210))).ext E223).other W228 (Ne.symm (Nat.ne_of_lt lt_d_b210))).lt (Nat.le_of_eq g236.symm)
  have lt_b223_b236 : b223 < b236 := Nat.lt_of_lt_of_le (V223.other W228 (Ne.symm (Nat.ne_of_lt lt_d_b223))).lt (Nat.le_of_eq g236.symm)
  have V236 : Arv Z h236 b236 k236 .int (2 : Int32) [(.int (0 : Int32)), (.int (0 : Int32))] (.int (0 : Int32)) := (Arv.new A236 (by decide)).pad (pad_rep [] (.int (0 : Int32)) 2)
  have G238 : Go p e below A0 (T236.setTop (mkF m 44 #[.val (.ref d), .val (.ref a), .unset, .unset, .unset] [(.ref b236), (.ref d)])) := fun tq kq => G235 tq (st236 _ kq)
  have f239 := ((f226.wr W228).ext E236)
  have f240 := ((((((D3_.other W202 (Or.inr (slot_ne (Or.inr (hw _ (List.mem_of_getElem? (i := 110) rfl))) (Or.inl (hw _ (List.mem_of_getElem? (i := 93) rfl))) (by decide) (t := (.array .int)) (t' := .int) (by decide) (by decide)))).ext E210).other W215 (Or.inr (slot_ne (Or.inr (hw _ (List.mem_of_getElem? (i := 110) rfl))) (Or.inr (hw _ (List.mem_of_getElem? (i := 106) rfl))) (by decide) (t := (.array .int)) (t' := (.array (.array .int))) (by decide) (by decide)))).ext E223).other W228 (Or.inr (slot_ne (Or.inr (hw _ (List.mem_of_getElem? (i := 110) rfl))) (Or.inr (hw _ (List.mem_of_getElem? (i := 108) rfl))) (by decide) (t := (.array .int)) (t' := (.array (.array .int))) (by decide) (by decide)))).ext E236)
  obtain ⟨T241, h241, X241, e241, W241, st241⟩ := putF X236 hx hZ hown (host := "") (Or.inl (hw _ (List.mem_of_getElem? (i := 109) rfl))) Via.refl e236 f240 f239 (Or.inr ⟨(hw _ (List.mem_of_getElem? (i := 110) rfl)), rfl, hnm⟩) (hw _ (List.mem_of_getElem? (i := 86) rfl)) (ty := (.array .int)) (by decide) rfl rfl (g := (mkF m 44 #[.val (.ref d), .val (.ref a), .unset, .unset, .unset] [(.ref b236), (.ref d)])) rfl rfl (hb hby d11_44)
  have N241 := Fr.snoc X241 N231 gd
  have fw241 := f240.same W241
  have G242 : Go p e below A0 (T241.setTop (mkF m 47 #[.val (.ref d), .val (.ref a), .unset, .unset, .unset] [])) := fun tq kq => G238 tq (st241 _ kq)
  have G243 : Go p e below A0 (T241.setTop (mkF m 49 #[.val (.ref d), .val (.ref a), .unset, .unset, .unset] [(.ref a), (.ref d)])) := fun tq kq => G242 tq (by
    refine XS.aloadN X241.here hx rfl (hb hby d11_47) rfl rfl ?_
    show Steps p.tables e below (T241.setTop (mkF m 48 #[.val (.ref d), .val (.ref a), .unset, .unset, .unset] [(.ref d)])) _
    refine XS.aloadN X241.here hx rfl (hb hby d11_48) rfl rfl ?_
    show Steps p.tables e below (T241.setTop (mkF m 49 #[.val (.ref d), .val (.ref a), .unset, .unset, .unset] [(.ref a), (.ref d)])) _
    exact kq)
  have f245 := (Nat.le_trans (Nat.le_trans f232 E236.1) (Keep.of_wr W241).1)
  have f246 := ((f233.ext E236).other W241 (Or.inl (Ne.symm hn_a)))
  have f247 := ((f234.ext E236).wr W241)
  obtain ⟨cq244, kq244, q244a, q244b, q244c⟩ := isOf hZ e241 f247
  obtain ⟨_, _, ⟨T244, L244, k244, n244⟩, -, X244, ⟨Lc244, hQ244, l244, y244, z244⟩, st244⟩ := X241.interfaceBack hx (xi := (⟨"java/util/List", "size", "()I"⟩ : MethodName)) (y := (⟨"java/util/ArrayList", "size", "()I"⟩ : MethodName)) hown (mvT hZ (hw _ (List.mem_of_getElem? (i := 94) rfl))) (mvT hZ (hw _ (List.mem_of_getElem? (i := 95) rfl))) (mvT hZ (hw _ (List.mem_of_getElem? (i := 96) rfl))) (mvT hZ (hw _ (List.mem_of_getElem? (i := 97) rfl))) (mvT hZ (hw _ (List.mem_of_getElem? (i := 98) rfl))) (mvT hZ (hw _ (List.mem_of_getElem? (i := 99) rfl))) (mvT hZ (hw _ (List.mem_of_getElem? (i := 100) rfl))) (mvT hZ (hw _ (List.mem_of_getElem? (i := 101) rfl))) (by decide) (backOf (W := 1) (rm12 l Z a0 hw [] a (2 : Int32) h241 n0 f245 f246) hZ (hw _ (List.mem_of_getElem? (i := 102) rfl)) (hw _ (List.mem_of_getElem? (i := 3) rfl)) (by decide) (by decide)) q244a q244b q244c (g := (mkF m 49 #[.val (.ref d), .val (.ref a), .unset, .unset, .unset] [(.ref a), (.ref d)])) rfl (by rw [hml]; rfl) (Steps.refl _) (argsL := []) (rest := [(.ref d)]) (lenOf pd_7 rfl) rfl (by show 2 * 0 + _ ≤ _; exact Nat.le_of_eq rfl) (hb hby d11_49) (fun _ _ => ⟨rfl, e241, (by decide : 3 + 0 ≤ _), (by decide : 6 + 0 ≤ _)⟩)
  dsimp only [Pt.U, Pt.locs, Pt.cells, Pt.slots] at X244 l244 y244 z244 st244 hQ244
  obtain rfl : k244 = 3 := y244
  obtain rfl : n244 = 6 := z244
  obtain ⟨rfl, N244q, e244⟩ := hQ244
  have N244 : Fr n0 L244 := by rw [l244]; exact Fr.app N241 N244q
  have G248 : Go p e below A0 (T244.setTop (mkF m 54 #[.val (.ref d), .val (.ref a), .unset, .unset, .unset] [(.int (2 : Int32)), (.ref d)])) := fun tq kq => G243 tq (st244.trans kq)
  obtain ⟨T249, h249, k249, X249, e249, E249, A249, -, O249, st249⟩ := newRA X244 hx hZ hown (C := "[I") (by decide) (hw _ (List.mem_of_getElem? (i := 103) rfl)) (hw _ (List.mem_of_getElem? (i := 104) rfl)) e244 (g := (mkF m 54 #[.val (.ref d), .val (.ref a), .unset, .unset, .unset] [(.int (2 : Int32)), (.ref d)])) rfl (hb hby d11_54) rfl (by decide) (cap := 2) (by decide) (by decide) (by decide) (by decide) (ad := "[[I") (by decide)
  obtain ⟨b249, g249⟩ : ∃ z, z = h241.size := ⟨_, rfl⟩
  rw [← g249] at A249 st249
  have f250 := (Nat.le_trans (Nat.le_trans f237 E236.1) (Keep.of_wr W241).1)
  have sz_b249 : h0.size ≤ b249 := Nat.le_trans f250 (Nat.le_of_eq g249.symm)
  have g_b249 : n0 ≤ b249 := Nat.le_trans f245 (Nat.le_of_eq g249.symm)
  have lt_d_b249 : d < b249 := Nat.lt_of_lt_of_le (f239.wr W241).lt (Nat.le_of_eq g249.symm)
  have lt_a_b249 : a < b249 := Nat.lt_of_lt_of_le f247.lt (Nat.le_of_eq g249.symm)
  have lt_b_b249 : b < b249 := Nat.lt_of_lt_of_le (((((((A.other W202 (Ne.symm hn_b)).ext E210).other W215 (Ne.symm hn_b)).ext E223).other W228 (Ne.symm hn_b)).ext E236).other W241 (Ne.symm hn_b)).lt (Nat.le_of_eq g249.symm)
  have lt_x_b249 : x < b249 := Nat.lt_of_lt_of_le (((((((Ex.wr W202).ext E210).wr W215).ext E223).wr W228).ext E236).wr W241).lt (Nat.le_of_eq g249.symm)
  have lt_cx_b249 : cx < b249 := Nat.lt_of_lt_of_le (((((((Ax.other W202 (Ne.symm hn_cx)).ext E210).other W215 (Ne.symm hn_cx)).ext E223).other W228 (Ne.symm hn_cx)).ext E236).other W241 (Ne.symm hn_cx)).lt (Nat.le_of_eq g249.symm)
  have lt_y_b249 : y < b249 := Nat.lt_of_lt_of_le (((((((Ey.wr W202).ext E210).wr W215).ext E223).wr W228).ext E236).wr W241).lt (Nat.le_of_eq g249.symm)
  have lt_cy_b249 : cy < b249 := Nat.lt_of_lt_of_le (((((((Ay.other W202 (Ne.symm hn_cy)).ext E210).other W215 (Ne.symm hn_cy)).ext E223).other W228 (Ne.symm hn_cy)).ext E236).other W241 (Ne.symm hn_cy)).lt (Nat.le_of_eq g249.symm)
  have lt_b210_b249 : b210 < b249 := Nat.lt_of_lt_of_le (((((V210.other W215 (Ne.symm (Nat.ne_of_lt lt_d_b210))).ext E223).other W228 (Ne.symm (Nat.ne_of_lt lt_d_b210))).ext E236).other W241 (Ne.symm (Nat.ne_of_lt lt_d_b210))).lt (Nat.le_of_eq g249.symm)
  have lt_b223_b249 : b223 < b249 := Nat.lt_of_lt_of_le (((V223.other W228 (Ne.symm (Nat.ne_of_lt lt_d_b223))).ext E236).other W241 (Ne.symm (Nat.ne_of_lt lt_d_b223))).lt (Nat.le_of_eq g249.symm)
  have lt_b236_b249 : b236 < b249 := Nat.lt_of_lt_of_le (V236.other W241 (Ne.symm (Nat.ne_of_lt lt_d_b236))).lt (Nat.le_of_eq g249.symm)
  have V249 : Arv Z h249 b249 k249 (.array .int) (2 : Int32) [.null, .null] .null := (Arv.new A249 (by decide)).pad (pad_rep [] .null 2)
  have G251 : Go p e below A0 (T249.setTop (mkF m 57 #[.val (.ref d), .val (.ref a), .unset, .unset, .unset] [(.ref b249), (.ref d)])) := fun tq kq => G248 tq (st249 _ kq)
  have f252 := ((f239.wr W241).ext E249)
  have f253 := ((((((((D4_.other W202 (Or.inr (slot_ne (Or.inr (hw _ (List.mem_of_getElem? (i := 112) rfl))) (Or.inl (hw _ (List.mem_of_getElem? (i := 93) rfl))) (by decide) (t := (.array (.array .int))) (t' := .int) (by decide) (by decide)))).ext E210).other W215 (Or.inr (slot_ne (Or.inr (hw _ (List.mem_of_getElem? (i := 112) rfl))) (Or.inr (hw _ (List.mem_of_getElem? (i := 106) rfl))) (by decide) (t := (.array (.array .int))) (t' := (.array (.array .int))) (by decide) (by decide)))).ext E223).other W228 (Or.inr (slot_ne (Or.inr (hw _ (List.mem_of_getElem? (i := 112) rfl))) (Or.inr (hw _ (List.mem_of_getElem? (i := 108) rfl))) (by decide) (t := (.array (.array .int))) (t' := (.array (.array .int))) (by decide) (by decide)))).ext E236).other W241 (Or.inr (slot_ne (Or.inr (hw _ (List.mem_of_getElem? (i := 112) rfl))) (Or.inr (hw _ (List.mem_of_getElem? (i := 110) rfl))) (by decide) (t := (.array (.array .int))) (t' := (.array .int)) (by decide) (by decide)))).ext E249)
  obtain ⟨T254, h254, X254, e254, W254, st254⟩ := putF X249 hx hZ hown (host := "") (Or.inl (hw _ (List.mem_of_getElem? (i := 111) rfl))) Via.refl e249 f253 f252 (Or.inr ⟨(hw _ (List.mem_of_getElem? (i := 112) rfl)), rfl, hnm⟩) (hw _ (List.mem_of_getElem? (i := 86) rfl)) (ty := (.array (.array .int))) (by decide) rfl rfl (g := (mkF m 57 #[.val (.ref d), .val (.ref a), .unset, .unset, .unset] [(.ref b249), (.ref d)])) rfl rfl (hb hby d11_57)
  have N254 := Fr.snoc X254 N244 gd
  have fw254 := f253.same W254
  have G255 : Go p e below A0 (T254.setTop (mkF m 60 #[.val (.ref d), .val (.ref a), .unset, .unset, .unset] [])) := fun tq kq => G251 tq (st254 _ kq)
  have G256 : Go p e below A0 (T254.setTop (mkF m 64 #[.val (.ref d), .val (.ref a), .val (.int (0 : Int32)), .unset, .unset] [(.ref d), (.int (0 : Int32))])) := fun tq kq => G255 tq (by
    refine XS.iconst X254.here hx rfl (hb hby d11_60) ?_
    show Steps p.tables e below (T254.setTop (mkF m 61 #[.val (.ref d), .val (.ref a), .unset, .unset, .unset] [(.int (0 : Int32))])) _
    refine XS.istoreN X254.here hx rfl (hb hby d11_61) rfl (l' := #[.val (.ref d), .val (.ref a), .val (.int (0 : Int32)), .unset, .unset]) rfl ?_
    show Steps p.tables e below (T254.setTop (mkF m 62 #[.val (.ref d), .val (.ref a), .val (.int (0 : Int32)), .unset, .unset] [])) _
    refine XS.iloadN X254.here hx rfl (hb hby d11_62) rfl ?_
    show Steps p.tables e below (T254.setTop (mkF m 63 #[.val (.ref d), .val (.ref a), .val (.int (0 : Int32)), .unset, .unset] [(.int (0 : Int32))])) _
    refine XS.aloadN X254.here hx rfl (hb hby d11_63) rfl rfl ?_
    show Steps p.tables e below (T254.setTop (mkF m 64 #[.val (.ref d), .val (.ref a), .val (.int (0 : Int32)), .unset, .unset] [(.ref d), (.int (0 : Int32))])) _
    exact kq)
  have f257 := ((((((fw215.ext E223).other W228 (Or.inr (slot_ne (Or.inr (hw _ (List.mem_of_getElem? (i := 106) rfl))) (Or.inr (hw _ (List.mem_of_getElem? (i := 108) rfl))) (by decide) (t := (.array (.array .int))) (t' := (.array (.array .int))) (by decide) (by decide)))).ext E236).other W241 (Or.inr (slot_ne (Or.inr (hw _ (List.mem_of_getElem? (i := 106) rfl))) (Or.inr (hw _ (List.mem_of_getElem? (i := 110) rfl))) (by decide) (t := (.array (.array .int))) (t' := (.array .int)) (by decide) (by decide)))).ext E249).other W254 (Or.inr (slot_ne (Or.inr (hw _ (List.mem_of_getElem? (i := 106) rfl))) (Or.inr (hw _ (List.mem_of_getElem? (i := 112) rfl))) (by decide) (t := (.array (.array .int))) (t' := (.array (.array .int))) (by decide) (by decide))))
  obtain ⟨T258, X258, e258, st258⟩ := getF X254 hx hZ hown (host := "") (Or.inl (hw _ (List.mem_of_getElem? (i := 105) rfl))) Via.refl e254 f257 (g := (mkF m 64 #[.val (.ref d), .val (.ref a), .val (.int (0 : Int32)), .unset, .unset] [(.ref d), (.int (0 : Int32))])) rfl rfl (hb hby d11_64)
  have G259 : Go p e below A0 (T258.setTop (mkF m 67 #[.val (.ref d), .val (.ref a), .val (.int (0 : Int32)), .unset, .unset] [(.ref b210), (.int (0 : Int32))])) := fun tq kq => G256 tq (st258 _ kq)
  have f260 := (((((((V210.other W215 (Ne.symm (Nat.ne_of_lt lt_d_b210))).ext E223).other W228 (Ne.symm (Nat.ne_of_lt lt_d_b210))).ext E236).other W241 (Ne.symm (Nat.ne_of_lt lt_d_b210))).ext E249).other W254 (Ne.symm (Nat.ne_of_lt lt_d_b210)))
  obtain ⟨cl261, Ar261, q261, S261, M261, H261, Gf261⟩ := id f260
  have G262 : Go p e below A0 (T258.setTop (mkF m 73 #[.val (.ref d), .val (.ref a), .val (.int (0 : Int32)), .unset, .unset] [(.int (0 : Int32)), (.ref a)])) := fun tq kq => G259 tq (by
    refine X258.arraylength hx (by rw [e258]; exact Ar261.1) (State.isArrayOf_alike hZ.alike Ar261.2.1) (g := (mkF m 67 #[.val (.ref d), .val (.ref a), .val (.int (0 : Int32)), .unset, .unset] [(.ref b210), (.int (0 : Int32))])) rfl rfl (hb hby d11_67) _ ?_
    rw [len_of S261 M261]
    show Steps p.tables e below (T258.setTop (mkF m 68 #[.val (.ref d), .val (.ref a), .val (.int (0 : Int32)), .unset, .unset] [(.int (2 : Int32)), (.int (0 : Int32))])) _
    refine XS.icmpNo X258.here hx rfl (hb hby d11_68) rfl (by decide) ?_
    show Steps p.tables e below (T258.setTop (mkF m 71 #[.val (.ref d), .val (.ref a), .val (.int (0 : Int32)), .unset, .unset] [])) _
    refine XS.aloadN X258.here hx rfl (hb hby d11_71) rfl rfl ?_
    show Steps p.tables e below (T258.setTop (mkF m 72 #[.val (.ref d), .val (.ref a), .val (.int (0 : Int32)), .unset, .unset] [(.ref a)])) _
    refine XS.iloadN X258.here hx rfl (hb hby d11_72) rfl ?_
    show Steps p.tables e below (T258.setTop (mkF m 73 #[.val (.ref d), .val (.ref a), .val (.int (0 : Int32)), .unset, .unset] [(.int (0 : Int32)), (.ref a)])) _
    exact kq)
  have f264 := ((f247.ext E249).wr W254)
  have f265 := (((((((((F1.other W202 (Or.inl (Ne.symm hn_a))).ext E210).other W215 (Or.inl (Ne.symm hn_a))).ext E223).other W228 (Or.inl (Ne.symm hn_a))).ext E236).other W241 (Or.inl (Ne.symm hn_a))).ext E249).other W254 (Or.inl (Ne.symm hn_a)))
  have f266 := ((f246.ext E249).other W254 (Or.inl (Ne.symm hn_a)))
  have f267 := (((((((((A.other W202 (Ne.symm hn_b)).ext E210).other W215 (Ne.symm hn_b)).ext E223).other W228 (Ne.symm hn_b)).ext E236).other W241 (Ne.symm hn_b)).ext E249).other W254 (Ne.symm hn_b))
  have f268 := (Nat.le_trans (Nat.le_trans f245 E249.1) (Keep.of_wr W254).1)
  obtain ⟨cq263, kq263, q263a, q263b, q263c⟩ := isOf hZ e258 f264
  obtain ⟨_, _, ⟨T263, L263, k263, n263⟩, -, X263, ⟨Lc263, hQ263, l263, y263, z263⟩, st263⟩ := X258.interfaceBack hx (xi := (⟨"java/util/List", "get", "(I)Ljava/lang/Object;"⟩ : MethodName)) (y := (⟨"java/util/ArrayList", "get", "(I)Ljava/lang/Object;"⟩ : MethodName)) hown (mvT hZ (hw _ (List.mem_of_getElem? (i := 113) rfl))) (mvT hZ (hw _ (List.mem_of_getElem? (i := 114) rfl))) (mvT hZ (hw _ (List.mem_of_getElem? (i := 115) rfl))) (mvT hZ (hw _ (List.mem_of_getElem? (i := 116) rfl))) (mvT hZ (hw _ (List.mem_of_getElem? (i := 117) rfl))) (mvT hZ (hw _ (List.mem_of_getElem? (i := 118) rfl))) (mvT hZ (hw _ (List.mem_of_getElem? (i := 119) rfl))) (mvT hZ (hw _ (List.mem_of_getElem? (i := 101) rfl))) (by decide) (backOf (W := 0) (rmGT0 l Z a0 hw [] a b x y kb h254 n0 f268 f264 f265 f266 f267) hZ (hw _ (List.mem_of_getElem? (i := 120) rfl)) (hw _ (List.mem_of_getElem? (i := 3) rfl)) (by decide) (by decide)) q263a q263b q263c (g := (mkF m 73 #[.val (.ref d), .val (.ref a), .val (.int (0 : Int32)), .unset, .unset] [(.int (0 : Int32)), (.ref a)])) rfl (by rw [hml]; rfl) (Steps.refl _) (argsL := [(.int (0 : Int32))]) (rest := []) (lenOf pd_6 rfl) rfl (by show 2 * 0 + _ ≤ _; exact Nat.le_of_eq rfl) (hb hby d11_73) (fun _ _ => ⟨rfl, e258, (by decide : 4 + 0 ≤ _), (by decide : 8 + 0 ≤ _)⟩)
  dsimp only [Pt.U, Pt.locs, Pt.cells, Pt.slots] at X263 l263 y263 z263 st263 hQ263
  obtain rfl : k263 = 4 := y263
  obtain rfl : n263 = 8 := z263
  obtain ⟨rfl, N263q, e263⟩ := hQ263
  have N263 : Fr n0 L263 := by rw [l263]; exact Fr.app N254 N263q
  have G269 : Go p e below A0 (T263.setTop (mkF m 78 #[.val (.ref d), .val (.ref a), .val (.int (0 : Int32)), .unset, .unset] [(.ref x)])) := fun tq kq => G262 tq (st263.trans kq)
  have f270 := (((((((((Ex.wr W202).ext E210).wr W215).ext E223).wr W228).ext E236).wr W241).ext E249).wr W254)
  obtain ⟨T271, X271, e271, st271⟩ := castY X263 hx hZ hown (hw _ (List.mem_of_getElem? (i := 134) rfl)) e263 (Ins.self f270) (g := (mkF m 78 #[.val (.ref d), .val (.ref a), .val (.int (0 : Int32)), .unset, .unset] [(.ref x)])) rfl rfl (hb hby d11_78)
  have G272 : Go p e below A0 (T271.setTop (mkF m 81 #[.val (.ref d), .val (.ref a), .val (.int (0 : Int32)), .unset, .unset] [(.ref x)])) := fun tq kq => G269 tq (st271 _ kq)
  have f274 := (((((((((Fx.other W202 (Or.inl (Ne.symm hn_x))).ext E210).other W215 (Or.inl (Ne.symm hn_x))).ext E223).other W228 (Or.inl (Ne.symm hn_x))).ext E236).other W241 (Or.inl (Ne.symm hn_x))).ext E249).other W254 (Or.inl (Ne.symm hn_x)))
  have f275 := (((((((((Ax.other W202 (Ne.symm hn_cx)).ext E210).other W215 (Ne.symm hn_cx)).ext E223).other W228 (Ne.symm hn_cx)).ext E236).other W241 (Ne.symm hn_cx)).ext E249).other W254 (Ne.symm hn_cx))
  obtain ⟨cq273, kq273, q273a, q273b, q273c⟩ := isOf hZ e271 f270
  obtain ⟨_, _, ⟨T273, L273, k273, n273⟩, -, X273, ⟨Lc273, hQ273, l273, y273, z273⟩, st273⟩ := X271.virtualBack hx (y := (⟨"com/example/ludarc/ludarc/engine/Variable", "size", "()I"⟩ : MethodName)) (z := (⟨"com/example/ludarc/ludarc/engine/Variable", "size", "()I"⟩ : MethodName)) hown (mvT hZ (hw _ (List.mem_of_getElem? (i := 136) rfl))) (mvT hZ (hw _ (List.mem_of_getElem? (i := 137) rfl))) (notFace_of_selects (args := #[]) (mvT hZ (hw _ (List.mem_of_getElem? (i := 139) rfl)))) (mvT hZ (hw _ (List.mem_of_getElem? (i := 139) rfl))) (mvT hZ (hw _ (List.mem_of_getElem? (i := 138) rfl))) (by decide) (backOf (W := 0) (rm17 l Z a0 hw [] x cx (3 : Int32) kx vsx h254 n0 f268 f274 f275) hZ (hw _ (List.mem_of_getElem? (i := 140) rfl)) (hw _ (List.mem_of_getElem? (i := 29) rfl)) (by decide) (by decide)) q273a q273c (g := (mkF m 81 #[.val (.ref d), .val (.ref a), .val (.int (0 : Int32)), .unset, .unset] [(.ref x)])) rfl (by rw [hml]; rfl) (Steps.refl _) (argsL := []) (rest := []) (lenOf pd_7 rfl) rfl (by show 2 * 0 + _ ≤ _; exact Nat.le_of_eq rfl) (hb hby d11_81) (fun _ _ => ⟨rfl, e271, (by decide : 4 + 0 ≤ _), (by decide : 8 + 0 ≤ _)⟩)
  dsimp only [Pt.U, Pt.locs, Pt.cells, Pt.slots] at X273 l273 y273 z273 st273 hQ273
  obtain rfl : k273 = 4 := y273
  obtain rfl : n273 = 8 := z273
  obtain ⟨rfl, N273q, e273⟩ := hQ273
  have N273 : Fr n0 L273 := by rw [l273]; exact Fr.app N263 N273q
  have G276 : Go p e below A0 (T273.setTop (mkF m 84 #[.val (.ref d), .val (.ref a), .val (.int (0 : Int32)), .unset, .unset] [(.int (3 : Int32))])) := fun tq kq => G272 tq (st273.trans kq)
  have G277 : Go p e below A0 (T273.setTop (mkF m 86 #[.val (.ref d), .val (.ref a), .val (.int (0 : Int32)), .val (.int (3 : Int32)), .unset] [(.ref d)])) := fun tq kq => G276 tq (by
    refine XS.istoreN X273.here hx rfl (hb hby d11_84) rfl (l' := #[.val (.ref d), .val (.ref a), .val (.int (0 : Int32)), .val (.int (3 : Int32)), .unset]) rfl ?_
    show Steps p.tables e below (T273.setTop (mkF m 85 #[.val (.ref d), .val (.ref a), .val (.int (0 : Int32)), .val (.int (3 : Int32)), .unset] [])) _
    refine XS.aloadN X273.here hx rfl (hb hby d11_85) rfl rfl ?_
    show Steps p.tables e below (T273.setTop (mkF m 86 #[.val (.ref d), .val (.ref a), .val (.int (0 : Int32)), .val (.int (3 : Int32)), .unset] [(.ref d)])) _
    exact kq)
  obtain ⟨T278, X278, e278, st278⟩ := getF X273 hx hZ hown (host := "") (Or.inl (hw _ (List.mem_of_getElem? (i := 105) rfl))) Via.refl e273 f257 (g := (mkF m 86 #[.val (.ref d), .val (.ref a), .val (.int (0 : Int32)), .val (.int (3 : Int32)), .unset] [(.ref d)])) rfl rfl (hb hby d11_86)
  have G279 : Go p e below A0 (T278.setTop (mkF m 89 #[.val (.ref d), .val (.ref a), .val (.int (0 : Int32)), .val (.int (3 : Int32)), .unset] [(.ref b210)])) := fun tq kq => G277 tq (st278 _ kq)
  have G280 : Go p e below A0 (T278.setTop (mkF m 91 #[.val (.ref d), .val (.ref a), .val (.int (0 : Int32)), .val (.int (3 : Int32)), .unset] [(.int (3 : Int32)), (.int (0 : Int32)), (.ref b210)])) := fun tq kq => G279 tq (by
    refine XS.iloadN X278.here hx rfl (hb hby d11_89) rfl ?_
    show Steps p.tables e below (T278.setTop (mkF m 90 #[.val (.ref d), .val (.ref a), .val (.int (0 : Int32)), .val (.int (3 : Int32)), .unset] [(.int (0 : Int32)), (.ref b210)])) _
    refine XS.iloadN X278.here hx rfl (hb hby d11_90) rfl ?_
    show Steps p.tables e below (T278.setTop (mkF m 91 #[.val (.ref d), .val (.ref a), .val (.int (0 : Int32)), .val (.int (3 : Int32)), .unset] [(.int (3 : Int32)), (.int (0 : Int32)), (.ref b210)])) _
    exact kq)
  obtain ⟨T281, h281, k281, X281, e281, E281, A281, Ex281, st281⟩ := newPE X278 hx hZ (hw _ (List.mem_of_getElem? (i := 38) rfl)) e278 (g := (mkF m 91 #[.val (.ref d), .val (.ref a), .val (.int (0 : Int32)), .val (.int (3 : Int32)), .unset] [(.int (3 : Int32)), (.int (0 : Int32)), (.ref b210)])) rfl (hb hby d11_91) rfl (by decide) (cap := 3) (by decide) (by decide) (by decide) (by decide) (ad := "[I") (by decide)
  obtain ⟨b281, g281⟩ : ∃ z, z = h254.size := ⟨_, rfl⟩
  rw [← g281] at A281 st281 Ex281
  have f282 := (Nat.le_trans (Nat.le_trans f250 E249.1) (Keep.of_wr W254).1)
  have sz_b281 : h0.size ≤ b281 := Nat.le_trans f282 (Nat.le_of_eq g281.symm)
  have g_b281 : n0 ≤ b281 := Nat.le_trans f268 (Nat.le_of_eq g281.symm)
  have lt_d_b281 : d < b281 := Nat.lt_of_lt_of_le (f252.wr W254).lt (Nat.le_of_eq g281.symm)
  have lt_a_b281 : a < b281 := Nat.lt_of_lt_of_le f264.lt (Nat.le_of_eq g281.symm)
  have lt_b_b281 : b < b281 := Nat.lt_of_lt_of_le f267.lt (Nat.le_of_eq g281.symm)
  have lt_x_b281 : x < b281 := Nat.lt_of_lt_of_le f270.lt (Nat.le_of_eq g281.symm)
  have lt_cx_b281 : cx < b281 := Nat.lt_of_lt_of_le f275.lt (Nat.le_of_eq g281.symm)
  have lt_y_b281 : y < b281 := Nat.lt_of_lt_of_le (((((((((Ey.wr W202).ext E210).wr W215).ext E223).wr W228).ext E236).wr W241).ext E249).wr W254).lt (Nat.le_of_eq g281.symm)
  have lt_cy_b281 : cy < b281 := Nat.lt_of_lt_of_le (((((((((Ay.other W202 (Ne.symm hn_cy)).ext E210).other W215 (Ne.symm hn_cy)).ext E223).other W228 (Ne.symm hn_cy)).ext E236).other W241 (Ne.symm hn_cy)).ext E249).other W254 (Ne.symm hn_cy)).lt (Nat.le_of_eq g281.symm)
  have lt_b210_b281 : b210 < b281 := Nat.lt_of_lt_of_le f260.lt (Nat.le_of_eq g281.symm)
  have lt_b223_b281 : b223 < b281 := Nat.lt_of_lt_of_le (((((V223.other W228 (Ne.symm (Nat.ne_of_lt lt_d_b223))).ext E236).other W241 (Ne.symm (Nat.ne_of_lt lt_d_b223))).ext E249).other W254 (Ne.symm (Nat.ne_of_lt lt_d_b223))).lt (Nat.le_of_eq g281.symm)
  have lt_b236_b281 : b236 < b281 := Nat.lt_of_lt_of_le (((V236.other W241 (Ne.symm (Nat.ne_of_lt lt_d_b236))).ext E249).other W254 (Ne.symm (Nat.ne_of_lt lt_d_b236))).lt (Nat.le_of_eq g281.symm)
  have lt_b249_b281 : b249 < b281 := Nat.lt_of_lt_of_le (V249.other W254 (Ne.symm (Nat.ne_of_lt lt_d_b249))).lt (Nat.le_of_eq g281.symm)
  have V281 : Arv Z h281 b281 k281 .int (3 : Int32) [(.int (0 : Int32)), (.int (0 : Int32)), (.int (0 : Int32))] (.int (0 : Int32)) := (Arv.new A281 (by decide)).pad (pad_rep [] (.int (0 : Int32)) 3)
  have G283 : Go p e below A0 (T281.setTop (mkF m 93 #[.val (.ref d), .val (.ref a), .val (.int (0 : Int32)), .val (.int (3 : Int32)), .unset] [(.ref b281), (.int (0 : Int32)), (.ref b210)])) := fun tq kq => G280 tq (st281 _ kq)
  have f284 := (f260.ext E281)
  obtain ⟨cl285, Ar285, q285, S285, M285, H285, Gf285⟩ := id f284
  have hi286 : ¬ ((0 : Int32) < 0 ∨ cl285.slots.size ≤ ((0 : Int32)).toNatClampNeg) := (inb_of S285 ⟨by decide, by decide⟩)
  obtain ⟨T287, h287, X287, e287, W287, st287⟩ := stR X281 hx hZ e281 Ar285 (j := (0 : Int32)) hi286 rfl (Sto.ofVA Ar285 q285 O210 (Ins.self Ex281)) (g := (mkF m 93 #[.val (.ref d), .val (.ref a), .val (.int (0 : Int32)), .val (.int (3 : Int32)), .unset] [(.ref b281), (.int (0 : Int32)), (.ref b210)])) rfl rfl (hb hby d11_93)
  have N287 := Fr.snoc X287 N273 g_b210
  have V287 := Arv.set Ar285 q285 S285 M285 H285 Gf285 rfl W287 0 rfl (Nat.le_of_ble_eq_true rfl)
  have V287' : Arv Z h287 b210 k210 (.array .int) (2 : Int32) [(.ref b281), .null] .null := by exact V287
  have G288 : Go p e below A0 (T287.setTop (mkF m 94 #[.val (.ref d), .val (.ref a), .val (.int (0 : Int32)), .val (.int (3 : Int32)), .unset] [])) := fun tq kq => G283 tq (st287 _ kq)
  have G289 : Go p e below A0 (T287.setTop (mkF m 95 #[.val (.ref d), .val (.ref a), .val (.int (0 : Int32)), .val (.int (3 : Int32)), .unset] [(.ref d)])) := fun tq kq => G288 tq (by
    refine XS.aloadN X287.here hx rfl (hb hby d11_94) rfl rfl ?_
    show Steps p.tables e below (T287.setTop (mkF m 95 #[.val (.ref d), .val (.ref a), .val (.int (0 : Int32)), .val (.int (3 : Int32)), .unset] [(.ref d)])) _
    exact kq)
  have f290 := ((((((fw228.ext E236).other W241 (Or.inr (slot_ne (Or.inr (hw _ (List.mem_of_getElem? (i := 108) rfl))) (Or.inr (hw _ (List.mem_of_getElem? (i := 110) rfl))) (by decide) (t := (.array (.array .int))) (t' := (.array .int)) (by decide) (by decide)))).ext E249).other W254 (Or.inr (slot_ne (Or.inr (hw _ (List.mem_of_getElem? (i := 108) rfl))) (Or.inr (hw _ (List.mem_of_getElem? (i := 112) rfl))) (by decide) (t := (.array (.array .int))) (t' := (.array (.array .int))) (by decide) (by decide)))).ext E281).other W287 (Or.inl (Nat.ne_of_lt lt_d_b210)))
  obtain ⟨T291, X291, e291, st291⟩ := getF X287 hx hZ hown (host := "") (Or.inl (hw _ (List.mem_of_getElem? (i := 107) rfl))) Via.refl e287 f290 (g := (mkF m 95 #[.val (.ref d), .val (.ref a), .val (.int (0 : Int32)), .val (.int (3 : Int32)), .unset] [(.ref d)])) rfl rfl (hb hby d11_95)
  have G292 : Go p e below A0 (T291.setTop (mkF m 98 #[.val (.ref d), .val (.ref a), .val (.int (0 : Int32)), .val (.int (3 : Int32)), .unset] [(.ref b223)])) := fun tq kq => G289 tq (st291 _ kq)
  have G293 : Go p e below A0 (T291.setTop (mkF m 100 #[.val (.ref d), .val (.ref a), .val (.int (0 : Int32)), .val (.int (3 : Int32)), .unset] [(.int (3 : Int32)), (.int (0 : Int32)), (.ref b223)])) := fun tq kq => G292 tq (by
    refine XS.iloadN X291.here hx rfl (hb hby d11_98) rfl ?_
    show Steps p.tables e below (T291.setTop (mkF m 99 #[.val (.ref d), .val (.ref a), .val (.int (0 : Int32)), .val (.int (3 : Int32)), .unset] [(.int (0 : Int32)), (.ref b223)])) _
    refine XS.iloadN X291.here hx rfl (hb hby d11_99) rfl ?_
    show Steps p.tables e below (T291.setTop (mkF m 100 #[.val (.ref d), .val (.ref a), .val (.int (0 : Int32)), .val (.int (3 : Int32)), .unset] [(.int (3 : Int32)), (.int (0 : Int32)), (.ref b223)])) _
    exact kq)
  have f295 := (Nat.le_trans (Nat.le_trans f268 E281.1) (Keep.of_wr W287).1)
  obtain ⟨T294, h294, k294, X294, e294, E294, A294, Ex294, st294⟩ := newPE X291 hx hZ (hw _ (List.mem_of_getElem? (i := 38) rfl)) e291 (g := (mkF m 100 #[.val (.ref d), .val (.ref a), .val (.int (0 : Int32)), .val (.int (3 : Int32)), .unset] [(.int (3 : Int32)), (.int (0 : Int32)), (.ref b223)])) rfl (hb hby d11_100) rfl (by decide) (cap := 3) (by decide) (by decide) (by decide) (by decide) (ad := "[I") (by decide)
  obtain ⟨b294, g294⟩ : ∃ z, z = h287.size := ⟨_, rfl⟩
  rw [← g294] at A294 st294 Ex294
  have f296 := (Nat.le_trans (Nat.le_trans f282 E281.1) (Keep.of_wr W287).1)
  have sz_b294 : h0.size ≤ b294 := Nat.le_trans f296 (Nat.le_of_eq g294.symm)
  have g_b294 : n0 ≤ b294 := Nat.le_trans f295 (Nat.le_of_eq g294.symm)
  have lt_d_b294 : d < b294 := Nat.lt_of_lt_of_le (((f252.wr W254).ext E281).wr W287).lt (Nat.le_of_eq g294.symm)
  have lt_a_b294 : a < b294 := Nat.lt_of_lt_of_le ((f264.ext E281).wr W287).lt (Nat.le_of_eq g294.symm)
  have lt_b_b294 : b < b294 := Nat.lt_of_lt_of_le ((f267.ext E281).other W287 (Nat.ne_of_lt lt_b_b210)).lt (Nat.le_of_eq g294.symm)
  have lt_x_b294 : x < b294 := Nat.lt_of_lt_of_le ((f270.ext E281).wr W287).lt (Nat.le_of_eq g294.symm)
  have lt_cx_b294 : cx < b294 := Nat.lt_of_lt_of_le ((f275.ext E281).other W287 (Nat.ne_of_lt lt_cx_b210)).lt (Nat.le_of_eq g294.symm)
  have lt_y_b294 : y < b294 := Nat.lt_of_lt_of_le (((((((((((Ey.wr W202).ext E210).wr W215).ext E223).wr W228).ext E236).wr W241).ext E249).wr W254).ext E281).wr W287).lt (Nat.le_of_eq g294.symm)
  have lt_cy_b294 : cy < b294 := Nat.lt_of_lt_of_le (((((((((((Ay.other W202 (Ne.symm hn_cy)).ext E210).other W215 (Ne.symm hn_cy)).ext E223).other W228 (Ne.symm hn_cy)).ext E236).other W241 (Ne.symm hn_cy)).ext E249).other W254 (Ne.symm hn_cy)).ext E281).other W287 (Nat.ne_of_lt lt_cy_b210)).lt (Nat.le_of_eq g294.symm)
  have lt_b210_b294 : b210 < b294 := Nat.lt_of_lt_of_le V287'.lt (Nat.le_of_eq g294.symm)
  have lt_b223_b294 : b223 < b294 := Nat.lt_of_lt_of_le (((((((V223.other W228 (Ne.symm (Nat.ne_of_lt lt_d_b223))).ext E236).other W241 (Ne.symm (Nat.ne_of_lt lt_d_b223))).ext E249).other W254 (Ne.symm (Nat.ne_of_lt lt_d_b223))).ext E281).other W287 (Ne.symm (Nat.ne_of_lt lt_b210_b223))).lt (Nat.le_of_eq g294.symm)
  have lt_b236_b294 : b236 < b294 := Nat.lt_of_lt_of_le (((((V236.other W241 (Ne.symm (Nat.ne_of_lt lt_d_b236))).ext E249).other W254 (Ne.symm (Nat.ne_of_lt lt_d_b236))).ext E281).other W287 (Ne.symm (Nat.ne_of_lt lt_b210_b236))).lt (Nat.le_of_eq g294.symm)
  have lt_b249_b294 : b249 < b294 := Nat.lt_of_lt_of_le (((V249.other W254 (Ne.symm (Nat.ne_of_lt lt_d_b249))).ext E281).other W287 (Ne.symm (Nat.ne_of_lt lt_b210_b249))).lt (Nat.le_of_eq g294.symm)
  have lt_b281_b294 : b281 < b294 := Nat.lt_of_lt_of_le (V281.other W287 (Ne.symm (Nat.ne_of_lt lt_b210_b281))).lt (Nat.le_of_eq g294.symm)
  have V294 : Arv Z h294 b294 k294 .int (3 : Int32) [(.int (0 : Int32)), (.int (0 : Int32)), (.int (0 : Int32))] (.int (0 : Int32)) := (Arv.new A294 (by decide)).pad (pad_rep [] (.int (0 : Int32)) 3)
  have G297 : Go p e below A0 (T294.setTop (mkF m 102 #[.val (.ref d), .val (.ref a), .val (.int (0 : Int32)), .val (.int (3 : Int32)), .unset] [(.ref b294), (.int (0 : Int32)), (.ref b223)])) := fun tq kq => G293 tq (st294 _ kq)
  have f298 := ((((((((V223.other W228 (Ne.symm (Nat.ne_of_lt lt_d_b223))).ext E236).other W241 (Ne.symm (Nat.ne_of_lt lt_d_b223))).ext E249).other W254 (Ne.symm (Nat.ne_of_lt lt_d_b223))).ext E281).other W287 (Ne.symm (Nat.ne_of_lt lt_b210_b223))).ext E294)
  obtain ⟨cl299, Ar299, q299, S299, M299, H299, Gf299⟩ := id f298
  have hi300 : ¬ ((0 : Int32) < 0 ∨ cl299.slots.size ≤ ((0 : Int32)).toNatClampNeg) := (inb_of S299 ⟨by decide, by decide⟩)
  obtain ⟨T301, h301, X301, e301, W301, st301⟩ := stR X294 hx hZ e294 Ar299 (j := (0 : Int32)) hi300 rfl (Sto.ofVA Ar299 q299 O223 (Ins.self Ex294)) (g := (mkF m 102 #[.val (.ref d), .val (.ref a), .val (.int (0 : Int32)), .val (.int (3 : Int32)), .unset] [(.ref b294), (.int (0 : Int32)), (.ref b223)])) rfl rfl (hb hby d11_102)
  have N301 := Fr.snoc X301 N287 g_b223
  have V301 := Arv.set Ar299 q299 S299 M299 H299 Gf299 rfl W301 0 rfl (Nat.le_of_ble_eq_true rfl)
  have V301' : Arv Z h301 b223 k223 (.array .int) (2 : Int32) [(.ref b294), .null] .null := by exact V301
  have G302 : Go p e below A0 (T301.setTop (mkF m 103 #[.val (.ref d), .val (.ref a), .val (.int (0 : Int32)), .val (.int (3 : Int32)), .unset] [])) := fun tq kq => G297 tq (st301 _ kq)
  have G303 : Go p e below A0 (T301.setTop (mkF m 113 #[.val (.ref d), .val (.ref a), .val (.int (0 : Int32)), .val (.int (3 : Int32)), .val (.int (0 : Int32))] [(.ref d)])) := fun tq kq => G302 tq (by
    refine XS.iconst X301.here hx rfl (hb hby d11_103) ?_
    show Steps p.tables e below (T301.setTop (mkF m 104 #[.val (.ref d), .val (.ref a), .val (.int (0 : Int32)), .val (.int (3 : Int32)), .unset] [(.int (0 : Int32))])) _
    refine XS.istore X301.here hx rfl (hb hby d11_104) rfl (l' := #[.val (.ref d), .val (.ref a), .val (.int (0 : Int32)), .val (.int (3 : Int32)), .val (.int (0 : Int32))]) rfl ?_
    show Steps p.tables e below (T301.setTop (mkF m 106 #[.val (.ref d), .val (.ref a), .val (.int (0 : Int32)), .val (.int (3 : Int32)), .val (.int (0 : Int32))] [])) _
    refine XS.iload X301.here hx rfl (hb hby d11_106) rfl ?_
    show Steps p.tables e below (T301.setTop (mkF m 108 #[.val (.ref d), .val (.ref a), .val (.int (0 : Int32)), .val (.int (3 : Int32)), .val (.int (0 : Int32))] [(.int (0 : Int32))])) _
    refine XS.iloadN X301.here hx rfl (hb hby d11_108) rfl ?_
    show Steps p.tables e below (T301.setTop (mkF m 109 #[.val (.ref d), .val (.ref a), .val (.int (0 : Int32)), .val (.int (3 : Int32)), .val (.int (0 : Int32))] [(.int (3 : Int32)), (.int (0 : Int32))])) _
    refine XS.icmpNo X301.here hx rfl (hb hby d11_109) rfl (by decide) ?_
    show Steps p.tables e below (T301.setTop (mkF m 112 #[.val (.ref d), .val (.ref a), .val (.int (0 : Int32)), .val (.int (3 : Int32)), .val (.int (0 : Int32))] [])) _
    refine XS.aloadN X301.here hx rfl (hb hby d11_112) rfl rfl ?_
    show Steps p.tables e below (T301.setTop (mkF m 113 #[.val (.ref d), .val (.ref a), .val (.int (0 : Int32)), .val (.int (3 : Int32)), .val (.int (0 : Int32))] [(.ref d)])) _
    exact kq)
  have f304 := ((((f257.ext E281).other W287 (Or.inl (Nat.ne_of_lt lt_d_b210))).ext E294).other W301 (Or.inl (Nat.ne_of_lt lt_d_b223)))
  obtain ⟨T305, X305, e305, st305⟩ := getF X301 hx hZ hown (host := "") (Or.inl (hw _ (List.mem_of_getElem? (i := 105) rfl))) Via.refl e301 f304 (g := (mkF m 113 #[.val (.ref d), .val (.ref a), .val (.int (0 : Int32)), .val (.int (3 : Int32)), .val (.int (0 : Int32))] [(.ref d)])) rfl rfl (hb hby d11_113)
  have G306 : Go p e below A0 (T305.setTop (mkF m 116 #[.val (.ref d), .val (.ref a), .val (.int (0 : Int32)), .val (.int (3 : Int32)), .val (.int (0 : Int32))] [(.ref b210)])) := fun tq kq => G303 tq (st305 _ kq)
  have G307 : Go p e below A0 (T305.setTop (mkF m 117 #[.val (.ref d), .val (.ref a), .val (.int (0 : Int32)), .val (.int (3 : Int32)), .val (.int (0 : Int32))] [(.int (0 : Int32)), (.ref b210)])) := fun tq kq => G306 tq (by
    refine XS.iloadN X305.here hx rfl (hb hby d11_116) rfl ?_
    show Steps p.tables e below (T305.setTop (mkF m 117 #[.val (.ref d), .val (.ref a), .val (.int (0 : Int32)), .val (.int (3 : Int32)), .val (.int (0 : Int32))] [(.int (0 : Int32)), (.ref b210)])) _
    exact kq)
  have f308 := ((V287'.ext E294).other W301 (Nat.ne_of_lt lt_b210_b223))
  obtain ⟨cl309, Ar309, q309, S309, M309, H309, Gf309⟩ := id f308
  have hi310 : ¬ ((0 : Int32) < 0 ∨ cl309.slots.size ≤ ((0 : Int32)).toNatClampNeg) := (inb_of S309 ⟨by decide, by decide⟩)
  have G311 : Go p e below A0 (T305.setTop (mkF m 122 #[.val (.ref d), .val (.ref a), .val (.int (0 : Int32)), .val (.int (3 : Int32)), .val (.int (0 : Int32))] [(.int (0 : Int32)), (.int (0 : Int32)), (.ref b281)])) := fun tq kq => G307 tq (by
    refine X305.aaload hx (j := (0 : Int32)) (v := (.ref b281)) (by rw [e305]; exact Ar309.1) (State.isArrayOf_alike hZ.alike Ar309.2.1) rfl Ar309.2.2 hi310 (H309.at hi310 rfl) (g := (mkF m 117 #[.val (.ref d), .val (.ref a), .val (.int (0 : Int32)), .val (.int (3 : Int32)), .val (.int (0 : Int32))] [(.int (0 : Int32)), (.ref b210)])) rfl rfl (hb hby d11_117) _ ?_
    show Steps p.tables e below (T305.setTop (mkF m 118 #[.val (.ref d), .val (.ref a), .val (.int (0 : Int32)), .val (.int (3 : Int32)), .val (.int (0 : Int32))] [(.ref b281)])) _
    refine XS.iload X305.here hx rfl (hb hby d11_118) rfl ?_
    show Steps p.tables e below (T305.setTop (mkF m 120 #[.val (.ref d), .val (.ref a), .val (.int (0 : Int32)), .val (.int (3 : Int32)), .val (.int (0 : Int32))] [(.int (0 : Int32)), (.ref b281)])) _
    refine XS.iload X305.here hx rfl (hb hby d11_120) rfl ?_
    show Steps p.tables e below (T305.setTop (mkF m 122 #[.val (.ref d), .val (.ref a), .val (.int (0 : Int32)), .val (.int (3 : Int32)), .val (.int (0 : Int32))] [(.int (0 : Int32)), (.int (0 : Int32)), (.ref b281)])) _
    exact kq)
  have f312 := (((V281.other W287 (Ne.symm (Nat.ne_of_lt lt_b210_b281))).ext E294).other W301 (Ne.symm (Nat.ne_of_lt lt_b223_b281)))
  obtain ⟨cl313, Ar313, q313, S313, M313, H313, Gf313⟩ := id f312
  have hi314 : ¬ ((0 : Int32) < 0 ∨ cl313.slots.size ≤ ((0 : Int32)).toNatClampNeg) := (inb_of S313 ⟨by decide, by decide⟩)
  obtain ⟨T315, h315, X315, e315, W315, st315⟩ := stI X305 hx hZ e305 Ar313 (j := (0 : Int32)) hi314 (g := (mkF m 122 #[.val (.ref d), .val (.ref a), .val (.int (0 : Int32)), .val (.int (3 : Int32)), .val (.int (0 : Int32))] [(.int (0 : Int32)), (.int (0 : Int32)), (.ref b281)])) rfl rfl (hb hby d11_122)
  have N315 := Fr.snoc X315 N301 g_b281
  have V315 := Arv.set Ar313 q313 S313 M313 H313 Gf313 rfl W315 0 rfl (Nat.le_of_ble_eq_true rfl)
  have V315' : Arv Z h315 b281 k281 .int (3 : Int32) [(.int (0 : Int32)), (.int (0 : Int32)), (.int (0 : Int32))] (.int (0 : Int32)) := by exact V315
  have G316 : Go p e below A0 (T315.setTop (mkF m 123 #[.val (.ref d), .val (.ref a), .val (.int (0 : Int32)), .val (.int (3 : Int32)), .val (.int (0 : Int32))] [])) := fun tq kq => G311 tq (st315 _ kq)
  have G317 : Go p e below A0 (T315.setTop (mkF m 124 #[.val (.ref d), .val (.ref a), .val (.int (0 : Int32)), .val (.int (3 : Int32)), .val (.int (0 : Int32))] [(.ref d)])) := fun tq kq => G316 tq (by
    refine XS.aloadN X315.here hx rfl (hb hby d11_123) rfl rfl ?_
    show Steps p.tables e below (T315.setTop (mkF m 124 #[.val (.ref d), .val (.ref a), .val (.int (0 : Int32)), .val (.int (3 : Int32)), .val (.int (0 : Int32))] [(.ref d)])) _
    exact kq)
  have f318 := (((f290.ext E294).other W301 (Or.inl (Nat.ne_of_lt lt_d_b223))).other W315 (Or.inl (Nat.ne_of_lt lt_d_b281)))
  obtain ⟨T319, X319, e319, st319⟩ := getF X315 hx hZ hown (host := "") (Or.inl (hw _ (List.mem_of_getElem? (i := 107) rfl))) Via.refl e315 f318 (g := (mkF m 124 #[.val (.ref d), .val (.ref a), .val (.int (0 : Int32)), .val (.int (3 : Int32)), .val (.int (0 : Int32))] [(.ref d)])) rfl rfl (hb hby d11_124)
  have G320 : Go p e below A0 (T319.setTop (mkF m 127 #[.val (.ref d), .val (.ref a), .val (.int (0 : Int32)), .val (.int (3 : Int32)), .val (.int (0 : Int32))] [(.ref b223)])) := fun tq kq => G317 tq (st319 _ kq)
  have G321 : Go p e below A0 (T319.setTop (mkF m 128 #[.val (.ref d), .val (.ref a), .val (.int (0 : Int32)), .val (.int (3 : Int32)), .val (.int (0 : Int32))] [(.int (0 : Int32)), (.ref b223)])) := fun tq kq => G320 tq (by
    refine XS.iloadN X319.here hx rfl (hb hby d11_127) rfl ?_
    show Steps p.tables e below (T319.setTop (mkF m 128 #[.val (.ref d), .val (.ref a), .val (.int (0 : Int32)), .val (.int (3 : Int32)), .val (.int (0 : Int32))] [(.int (0 : Int32)), (.ref b223)])) _
    exact kq)
  have f322 := (V301'.other W315 (Nat.ne_of_lt lt_b223_b281))
  obtain ⟨cl323, Ar323, q323, S323, M323, H323, Gf323⟩ := id f322
  have hi324 : ¬ ((0 : Int32) < 0 ∨ cl323.slots.size ≤ ((0 : Int32)).toNatClampNeg) := (inb_of S323 ⟨by decide, by decide⟩)
  have G325 : Go p e below A0 (T319.setTop (mkF m 133 #[.val (.ref d), .val (.ref a), .val (.int (0 : Int32)), .val (.int (3 : Int32)), .val (.int (0 : Int32))] [(.int (0 : Int32)), (.int (0 : Int32)), (.ref b294)])) := fun tq kq => G321 tq (by
    refine X319.aaload hx (j := (0 : Int32)) (v := (.ref b294)) (by rw [e319]; exact Ar323.1) (State.isArrayOf_alike hZ.alike Ar323.2.1) rfl Ar323.2.2 hi324 (H323.at hi324 rfl) (g := (mkF m 128 #[.val (.ref d), .val (.ref a), .val (.int (0 : Int32)), .val (.int (3 : Int32)), .val (.int (0 : Int32))] [(.int (0 : Int32)), (.ref b223)])) rfl rfl (hb hby d11_128) _ ?_
    show Steps p.tables e below (T319.setTop (mkF m 129 #[.val (.ref d), .val (.ref a), .val (.int (0 : Int32)), .val (.int (3 : Int32)), .val (.int (0 : Int32))] [(.ref b294)])) _
    refine XS.iload X319.here hx rfl (hb hby d11_129) rfl ?_
    show Steps p.tables e below (T319.setTop (mkF m 131 #[.val (.ref d), .val (.ref a), .val (.int (0 : Int32)), .val (.int (3 : Int32)), .val (.int (0 : Int32))] [(.int (0 : Int32)), (.ref b294)])) _
    refine XS.iload X319.here hx rfl (hb hby d11_131) rfl ?_
    show Steps p.tables e below (T319.setTop (mkF m 133 #[.val (.ref d), .val (.ref a), .val (.int (0 : Int32)), .val (.int (3 : Int32)), .val (.int (0 : Int32))] [(.int (0 : Int32)), (.int (0 : Int32)), (.ref b294)])) _
    exact kq)
  have f326 := ((V294.other W301 (Ne.symm (Nat.ne_of_lt lt_b223_b294))).other W315 (Ne.symm (Nat.ne_of_lt lt_b281_b294)))
  obtain ⟨cl327, Ar327, q327, S327, M327, H327, Gf327⟩ := id f326
  have hi328 : ¬ ((0 : Int32) < 0 ∨ cl327.slots.size ≤ ((0 : Int32)).toNatClampNeg) := (inb_of S327 ⟨by decide, by decide⟩)
  obtain ⟨T329, h329, X329, e329, W329, st329⟩ := stI X319 hx hZ e319 Ar327 (j := (0 : Int32)) hi328 (g := (mkF m 133 #[.val (.ref d), .val (.ref a), .val (.int (0 : Int32)), .val (.int (3 : Int32)), .val (.int (0 : Int32))] [(.int (0 : Int32)), (.int (0 : Int32)), (.ref b294)])) rfl rfl (hb hby d11_133)
  have N329 := Fr.snoc X329 N315 g_b294
  have V329 := Arv.set Ar327 q327 S327 M327 H327 Gf327 rfl W329 0 rfl (Nat.le_of_ble_eq_true rfl)
  have V329' : Arv Z h329 b294 k294 .int (3 : Int32) [(.int (0 : Int32)), (.int (0 : Int32)), (.int (0 : Int32))] (.int (0 : Int32)) := by exact V329
  have G330 : Go p e below A0 (T329.setTop (mkF m 134 #[.val (.ref d), .val (.ref a), .val (.int (0 : Int32)), .val (.int (3 : Int32)), .val (.int (0 : Int32))] [])) := fun tq kq => G325 tq (st329 _ kq)
  have G331 : Go p e below A0 (T329.setTop (mkF m 113 #[.val (.ref d), .val (.ref a), .val (.int (0 : Int32)), .val (.int (3 : Int32)), .val (.int (1 : Int32))] [(.ref d)])) := fun tq kq => G330 tq (by
    refine XS.iinc X329.here hx rfl (hb hby d11_134) rfl (l' := #[.val (.ref d), .val (.ref a), .val (.int (0 : Int32)), .val (.int (3 : Int32)), .val (.int ((0 : Int32) + (1 : Int32)))]) rfl ?_
    show Steps p.tables e below (T329.setTop (mkF m 137 #[.val (.ref d), .val (.ref a), .val (.int (0 : Int32)), .val (.int (3 : Int32)), .val (.int ((0 : Int32) + (1 : Int32)))] [])) _
    rw [show ((0 : Int32) + (1 : Int32)) = (1 : Int32) from (by decide : ((0 : Int32) + (1 : Int32)) = (1 : Int32))]
    show Steps p.tables e below (T329.setTop (mkF m 137 #[.val (.ref d), .val (.ref a), .val (.int (0 : Int32)), .val (.int (3 : Int32)), .val (.int (1 : Int32))] [])) _
    refine XS.goto X329.here hx rfl (pc0 := 137) (pc' := 106) rfl (hb hby d11_137) (by decide) (by decide) ?_
    show Steps p.tables e below (T329.setTop (mkF m 106 #[.val (.ref d), .val (.ref a), .val (.int (0 : Int32)), .val (.int (3 : Int32)), .val (.int (1 : Int32))] [])) _
    refine XS.iload X329.here hx rfl (hb hby d11_106) rfl ?_
    show Steps p.tables e below (T329.setTop (mkF m 108 #[.val (.ref d), .val (.ref a), .val (.int (0 : Int32)), .val (.int (3 : Int32)), .val (.int (1 : Int32))] [(.int (1 : Int32))])) _
    refine XS.iloadN X329.here hx rfl (hb hby d11_108) rfl ?_
    show Steps p.tables e below (T329.setTop (mkF m 109 #[.val (.ref d), .val (.ref a), .val (.int (0 : Int32)), .val (.int (3 : Int32)), .val (.int (1 : Int32))] [(.int (3 : Int32)), (.int (1 : Int32))])) _
    refine XS.icmpNo X329.here hx rfl (hb hby d11_109) rfl (by decide) ?_
    show Steps p.tables e below (T329.setTop (mkF m 112 #[.val (.ref d), .val (.ref a), .val (.int (0 : Int32)), .val (.int (3 : Int32)), .val (.int (1 : Int32))] [])) _
    refine XS.aloadN X329.here hx rfl (hb hby d11_112) rfl rfl ?_
    show Steps p.tables e below (T329.setTop (mkF m 113 #[.val (.ref d), .val (.ref a), .val (.int (0 : Int32)), .val (.int (3 : Int32)), .val (.int (1 : Int32))] [(.ref d)])) _
    exact kq)
  have f332 := ((f304.other W315 (Or.inl (Nat.ne_of_lt lt_d_b281))).other W329 (Or.inl (Nat.ne_of_lt lt_d_b294)))
  obtain ⟨T333, X333, e333, st333⟩ := getF X329 hx hZ hown (host := "") (Or.inl (hw _ (List.mem_of_getElem? (i := 105) rfl))) Via.refl e329 f332 (g := (mkF m 113 #[.val (.ref d), .val (.ref a), .val (.int (0 : Int32)), .val (.int (3 : Int32)), .val (.int (1 : Int32))] [(.ref d)])) rfl rfl (hb hby d11_113)
  have G334 : Go p e below A0 (T333.setTop (mkF m 116 #[.val (.ref d), .val (.ref a), .val (.int (0 : Int32)), .val (.int (3 : Int32)), .val (.int (1 : Int32))] [(.ref b210)])) := fun tq kq => G331 tq (st333 _ kq)
  have G335 : Go p e below A0 (T333.setTop (mkF m 117 #[.val (.ref d), .val (.ref a), .val (.int (0 : Int32)), .val (.int (3 : Int32)), .val (.int (1 : Int32))] [(.int (0 : Int32)), (.ref b210)])) := fun tq kq => G334 tq (by
    refine XS.iloadN X333.here hx rfl (hb hby d11_116) rfl ?_
    show Steps p.tables e below (T333.setTop (mkF m 117 #[.val (.ref d), .val (.ref a), .val (.int (0 : Int32)), .val (.int (3 : Int32)), .val (.int (1 : Int32))] [(.int (0 : Int32)), (.ref b210)])) _
    exact kq)
  have f336 := ((f308.other W315 (Nat.ne_of_lt lt_b210_b281)).other W329 (Nat.ne_of_lt lt_b210_b294))
  obtain ⟨cl337, Ar337, q337, S337, M337, H337, Gf337⟩ := id f336
  have hi338 : ¬ ((0 : Int32) < 0 ∨ cl337.slots.size ≤ ((0 : Int32)).toNatClampNeg) := (inb_of S337 ⟨by decide, by decide⟩)
  have G339 : Go p e below A0 (T333.setTop (mkF m 122 #[.val (.ref d), .val (.ref a), .val (.int (0 : Int32)), .val (.int (3 : Int32)), .val (.int (1 : Int32))] [(.int (1 : Int32)), (.int (1 : Int32)), (.ref b281)])) := fun tq kq => G335 tq (by
    refine X333.aaload hx (j := (0 : Int32)) (v := (.ref b281)) (by rw [e333]; exact Ar337.1) (State.isArrayOf_alike hZ.alike Ar337.2.1) rfl Ar337.2.2 hi338 (H337.at hi338 rfl) (g := (mkF m 117 #[.val (.ref d), .val (.ref a), .val (.int (0 : Int32)), .val (.int (3 : Int32)), .val (.int (1 : Int32))] [(.int (0 : Int32)), (.ref b210)])) rfl rfl (hb hby d11_117) _ ?_
    show Steps p.tables e below (T333.setTop (mkF m 118 #[.val (.ref d), .val (.ref a), .val (.int (0 : Int32)), .val (.int (3 : Int32)), .val (.int (1 : Int32))] [(.ref b281)])) _
    refine XS.iload X333.here hx rfl (hb hby d11_118) rfl ?_
    show Steps p.tables e below (T333.setTop (mkF m 120 #[.val (.ref d), .val (.ref a), .val (.int (0 : Int32)), .val (.int (3 : Int32)), .val (.int (1 : Int32))] [(.int (1 : Int32)), (.ref b281)])) _
    refine XS.iload X333.here hx rfl (hb hby d11_120) rfl ?_
    show Steps p.tables e below (T333.setTop (mkF m 122 #[.val (.ref d), .val (.ref a), .val (.int (0 : Int32)), .val (.int (3 : Int32)), .val (.int (1 : Int32))] [(.int (1 : Int32)), (.int (1 : Int32)), (.ref b281)])) _
    exact kq)
  have f340 := (V315'.other W329 (Nat.ne_of_lt lt_b281_b294))
  obtain ⟨cl341, Ar341, q341, S341, M341, H341, Gf341⟩ := id f340
  have hi342 : ¬ ((1 : Int32) < 0 ∨ cl341.slots.size ≤ ((1 : Int32)).toNatClampNeg) := (inb_of S341 ⟨by decide, by decide⟩)
  obtain ⟨T343, h343, X343, e343, W343, st343⟩ := stI X333 hx hZ e333 Ar341 (j := (1 : Int32)) hi342 (g := (mkF m 122 #[.val (.ref d), .val (.ref a), .val (.int (0 : Int32)), .val (.int (3 : Int32)), .val (.int (1 : Int32))] [(.int (1 : Int32)), (.int (1 : Int32)), (.ref b281)])) rfl rfl (hb hby d11_122)
  have N343 := Fr.snoc X343 N329 g_b281
  have V343 := Arv.set Ar341 q341 S341 M341 H341 Gf341 rfl W343 1 rfl (Nat.le_of_ble_eq_true rfl)
  have V343' : Arv Z h343 b281 k281 .int (3 : Int32) [(.int (0 : Int32)), (.int (1 : Int32)), (.int (0 : Int32))] (.int (0 : Int32)) := by exact V343
  have G344 : Go p e below A0 (T343.setTop (mkF m 123 #[.val (.ref d), .val (.ref a), .val (.int (0 : Int32)), .val (.int (3 : Int32)), .val (.int (1 : Int32))] [])) := fun tq kq => G339 tq (st343 _ kq)
  have G345 : Go p e below A0 (T343.setTop (mkF m 124 #[.val (.ref d), .val (.ref a), .val (.int (0 : Int32)), .val (.int (3 : Int32)), .val (.int (1 : Int32))] [(.ref d)])) := fun tq kq => G344 tq (by
    refine XS.aloadN X343.here hx rfl (hb hby d11_123) rfl rfl ?_
    show Steps p.tables e below (T343.setTop (mkF m 124 #[.val (.ref d), .val (.ref a), .val (.int (0 : Int32)), .val (.int (3 : Int32)), .val (.int (1 : Int32))] [(.ref d)])) _
    exact kq)
  have f346 := ((f318.other W329 (Or.inl (Nat.ne_of_lt lt_d_b294))).other W343 (Or.inl (Nat.ne_of_lt lt_d_b281)))
  obtain ⟨T347, X347, e347, st347⟩ := getF X343 hx hZ hown (host := "") (Or.inl (hw _ (List.mem_of_getElem? (i := 107) rfl))) Via.refl e343 f346 (g := (mkF m 124 #[.val (.ref d), .val (.ref a), .val (.int (0 : Int32)), .val (.int (3 : Int32)), .val (.int (1 : Int32))] [(.ref d)])) rfl rfl (hb hby d11_124)
  have G348 : Go p e below A0 (T347.setTop (mkF m 127 #[.val (.ref d), .val (.ref a), .val (.int (0 : Int32)), .val (.int (3 : Int32)), .val (.int (1 : Int32))] [(.ref b223)])) := fun tq kq => G345 tq (st347 _ kq)
  have G349 : Go p e below A0 (T347.setTop (mkF m 128 #[.val (.ref d), .val (.ref a), .val (.int (0 : Int32)), .val (.int (3 : Int32)), .val (.int (1 : Int32))] [(.int (0 : Int32)), (.ref b223)])) := fun tq kq => G348 tq (by
    refine XS.iloadN X347.here hx rfl (hb hby d11_127) rfl ?_
    show Steps p.tables e below (T347.setTop (mkF m 128 #[.val (.ref d), .val (.ref a), .val (.int (0 : Int32)), .val (.int (3 : Int32)), .val (.int (1 : Int32))] [(.int (0 : Int32)), (.ref b223)])) _
    exact kq)
  have f350 := ((f322.other W329 (Nat.ne_of_lt lt_b223_b294)).other W343 (Nat.ne_of_lt lt_b223_b281))
  obtain ⟨cl351, Ar351, q351, S351, M351, H351, Gf351⟩ := id f350
  have hi352 : ¬ ((0 : Int32) < 0 ∨ cl351.slots.size ≤ ((0 : Int32)).toNatClampNeg) := (inb_of S351 ⟨by decide, by decide⟩)
  have G353 : Go p e below A0 (T347.setTop (mkF m 133 #[.val (.ref d), .val (.ref a), .val (.int (0 : Int32)), .val (.int (3 : Int32)), .val (.int (1 : Int32))] [(.int (1 : Int32)), (.int (1 : Int32)), (.ref b294)])) := fun tq kq => G349 tq (by
    refine X347.aaload hx (j := (0 : Int32)) (v := (.ref b294)) (by rw [e347]; exact Ar351.1) (State.isArrayOf_alike hZ.alike Ar351.2.1) rfl Ar351.2.2 hi352 (H351.at hi352 rfl) (g := (mkF m 128 #[.val (.ref d), .val (.ref a), .val (.int (0 : Int32)), .val (.int (3 : Int32)), .val (.int (1 : Int32))] [(.int (0 : Int32)), (.ref b223)])) rfl rfl (hb hby d11_128) _ ?_
    show Steps p.tables e below (T347.setTop (mkF m 129 #[.val (.ref d), .val (.ref a), .val (.int (0 : Int32)), .val (.int (3 : Int32)), .val (.int (1 : Int32))] [(.ref b294)])) _
    refine XS.iload X347.here hx rfl (hb hby d11_129) rfl ?_
    show Steps p.tables e below (T347.setTop (mkF m 131 #[.val (.ref d), .val (.ref a), .val (.int (0 : Int32)), .val (.int (3 : Int32)), .val (.int (1 : Int32))] [(.int (1 : Int32)), (.ref b294)])) _
    refine XS.iload X347.here hx rfl (hb hby d11_131) rfl ?_
    show Steps p.tables e below (T347.setTop (mkF m 133 #[.val (.ref d), .val (.ref a), .val (.int (0 : Int32)), .val (.int (3 : Int32)), .val (.int (1 : Int32))] [(.int (1 : Int32)), (.int (1 : Int32)), (.ref b294)])) _
    exact kq)
  have f354 := (V329'.other W343 (Ne.symm (Nat.ne_of_lt lt_b281_b294)))
  obtain ⟨cl355, Ar355, q355, S355, M355, H355, Gf355⟩ := id f354
  have hi356 : ¬ ((1 : Int32) < 0 ∨ cl355.slots.size ≤ ((1 : Int32)).toNatClampNeg) := (inb_of S355 ⟨by decide, by decide⟩)
  obtain ⟨T357, h357, X357, e357, W357, st357⟩ := stI X347 hx hZ e347 Ar355 (j := (1 : Int32)) hi356 (g := (mkF m 133 #[.val (.ref d), .val (.ref a), .val (.int (0 : Int32)), .val (.int (3 : Int32)), .val (.int (1 : Int32))] [(.int (1 : Int32)), (.int (1 : Int32)), (.ref b294)])) rfl rfl (hb hby d11_133)
  have N357 := Fr.snoc X357 N343 g_b294
  have V357 := Arv.set Ar355 q355 S355 M355 H355 Gf355 rfl W357 1 rfl (Nat.le_of_ble_eq_true rfl)
  have V357' : Arv Z h357 b294 k294 .int (3 : Int32) [(.int (0 : Int32)), (.int (1 : Int32)), (.int (0 : Int32))] (.int (0 : Int32)) := by exact V357
  have G358 : Go p e below A0 (T357.setTop (mkF m 134 #[.val (.ref d), .val (.ref a), .val (.int (0 : Int32)), .val (.int (3 : Int32)), .val (.int (1 : Int32))] [])) := fun tq kq => G353 tq (st357 _ kq)
  have G359 : Go p e below A0 (T357.setTop (mkF m 113 #[.val (.ref d), .val (.ref a), .val (.int (0 : Int32)), .val (.int (3 : Int32)), .val (.int (2 : Int32))] [(.ref d)])) := fun tq kq => G358 tq (by
    refine XS.iinc X357.here hx rfl (hb hby d11_134) rfl (l' := #[.val (.ref d), .val (.ref a), .val (.int (0 : Int32)), .val (.int (3 : Int32)), .val (.int ((1 : Int32) + (1 : Int32)))]) rfl ?_
    show Steps p.tables e below (T357.setTop (mkF m 137 #[.val (.ref d), .val (.ref a), .val (.int (0 : Int32)), .val (.int (3 : Int32)), .val (.int ((1 : Int32) + (1 : Int32)))] [])) _
    rw [show ((1 : Int32) + (1 : Int32)) = (2 : Int32) from (by decide : ((1 : Int32) + (1 : Int32)) = (2 : Int32))]
    show Steps p.tables e below (T357.setTop (mkF m 137 #[.val (.ref d), .val (.ref a), .val (.int (0 : Int32)), .val (.int (3 : Int32)), .val (.int (2 : Int32))] [])) _
    refine XS.goto X357.here hx rfl (pc0 := 137) (pc' := 106) rfl (hb hby d11_137) (by decide) (by decide) ?_
    show Steps p.tables e below (T357.setTop (mkF m 106 #[.val (.ref d), .val (.ref a), .val (.int (0 : Int32)), .val (.int (3 : Int32)), .val (.int (2 : Int32))] [])) _
    refine XS.iload X357.here hx rfl (hb hby d11_106) rfl ?_
    show Steps p.tables e below (T357.setTop (mkF m 108 #[.val (.ref d), .val (.ref a), .val (.int (0 : Int32)), .val (.int (3 : Int32)), .val (.int (2 : Int32))] [(.int (2 : Int32))])) _
    refine XS.iloadN X357.here hx rfl (hb hby d11_108) rfl ?_
    show Steps p.tables e below (T357.setTop (mkF m 109 #[.val (.ref d), .val (.ref a), .val (.int (0 : Int32)), .val (.int (3 : Int32)), .val (.int (2 : Int32))] [(.int (3 : Int32)), (.int (2 : Int32))])) _
    refine XS.icmpNo X357.here hx rfl (hb hby d11_109) rfl (by decide) ?_
    show Steps p.tables e below (T357.setTop (mkF m 112 #[.val (.ref d), .val (.ref a), .val (.int (0 : Int32)), .val (.int (3 : Int32)), .val (.int (2 : Int32))] [])) _
    refine XS.aloadN X357.here hx rfl (hb hby d11_112) rfl rfl ?_
    show Steps p.tables e below (T357.setTop (mkF m 113 #[.val (.ref d), .val (.ref a), .val (.int (0 : Int32)), .val (.int (3 : Int32)), .val (.int (2 : Int32))] [(.ref d)])) _
    exact kq)
  have f360 := ((f332.other W343 (Or.inl (Nat.ne_of_lt lt_d_b281))).other W357 (Or.inl (Nat.ne_of_lt lt_d_b294)))
  obtain ⟨T361, X361, e361, st361⟩ := getF X357 hx hZ hown (host := "") (Or.inl (hw _ (List.mem_of_getElem? (i := 105) rfl))) Via.refl e357 f360 (g := (mkF m 113 #[.val (.ref d), .val (.ref a), .val (.int (0 : Int32)), .val (.int (3 : Int32)), .val (.int (2 : Int32))] [(.ref d)])) rfl rfl (hb hby d11_113)
  have G362 : Go p e below A0 (T361.setTop (mkF m 116 #[.val (.ref d), .val (.ref a), .val (.int (0 : Int32)), .val (.int (3 : Int32)), .val (.int (2 : Int32))] [(.ref b210)])) := fun tq kq => G359 tq (st361 _ kq)
  have G363 : Go p e below A0 (T361.setTop (mkF m 117 #[.val (.ref d), .val (.ref a), .val (.int (0 : Int32)), .val (.int (3 : Int32)), .val (.int (2 : Int32))] [(.int (0 : Int32)), (.ref b210)])) := fun tq kq => G362 tq (by
    refine XS.iloadN X361.here hx rfl (hb hby d11_116) rfl ?_
    show Steps p.tables e below (T361.setTop (mkF m 117 #[.val (.ref d), .val (.ref a), .val (.int (0 : Int32)), .val (.int (3 : Int32)), .val (.int (2 : Int32))] [(.int (0 : Int32)), (.ref b210)])) _
    exact kq)
  have f364 := ((f336.other W343 (Nat.ne_of_lt lt_b210_b281)).other W357 (Nat.ne_of_lt lt_b210_b294))
  obtain ⟨cl365, Ar365, q365, S365, M365, H365, Gf365⟩ := id f364
  have hi366 : ¬ ((0 : Int32) < 0 ∨ cl365.slots.size ≤ ((0 : Int32)).toNatClampNeg) := (inb_of S365 ⟨by decide, by decide⟩)
  have G367 : Go p e below A0 (T361.setTop (mkF m 122 #[.val (.ref d), .val (.ref a), .val (.int (0 : Int32)), .val (.int (3 : Int32)), .val (.int (2 : Int32))] [(.int (2 : Int32)), (.int (2 : Int32)), (.ref b281)])) := fun tq kq => G363 tq (by
    refine X361.aaload hx (j := (0 : Int32)) (v := (.ref b281)) (by rw [e361]; exact Ar365.1) (State.isArrayOf_alike hZ.alike Ar365.2.1) rfl Ar365.2.2 hi366 (H365.at hi366 rfl) (g := (mkF m 117 #[.val (.ref d), .val (.ref a), .val (.int (0 : Int32)), .val (.int (3 : Int32)), .val (.int (2 : Int32))] [(.int (0 : Int32)), (.ref b210)])) rfl rfl (hb hby d11_117) _ ?_
    show Steps p.tables e below (T361.setTop (mkF m 118 #[.val (.ref d), .val (.ref a), .val (.int (0 : Int32)), .val (.int (3 : Int32)), .val (.int (2 : Int32))] [(.ref b281)])) _
    refine XS.iload X361.here hx rfl (hb hby d11_118) rfl ?_
    show Steps p.tables e below (T361.setTop (mkF m 120 #[.val (.ref d), .val (.ref a), .val (.int (0 : Int32)), .val (.int (3 : Int32)), .val (.int (2 : Int32))] [(.int (2 : Int32)), (.ref b281)])) _
    refine XS.iload X361.here hx rfl (hb hby d11_120) rfl ?_
    show Steps p.tables e below (T361.setTop (mkF m 122 #[.val (.ref d), .val (.ref a), .val (.int (0 : Int32)), .val (.int (3 : Int32)), .val (.int (2 : Int32))] [(.int (2 : Int32)), (.int (2 : Int32)), (.ref b281)])) _
    exact kq)
  have f368 := (V343'.other W357 (Nat.ne_of_lt lt_b281_b294))
  obtain ⟨cl369, Ar369, q369, S369, M369, H369, Gf369⟩ := id f368
  have hi370 : ¬ ((2 : Int32) < 0 ∨ cl369.slots.size ≤ ((2 : Int32)).toNatClampNeg) := (inb_of S369 ⟨by decide, by decide⟩)
  obtain ⟨T371, h371, X371, e371, W371, st371⟩ := stI X361 hx hZ e361 Ar369 (j := (2 : Int32)) hi370 (g := (mkF m 122 #[.val (.ref d), .val (.ref a), .val (.int (0 : Int32)), .val (.int (3 : Int32)), .val (.int (2 : Int32))] [(.int (2 : Int32)), (.int (2 : Int32)), (.ref b281)])) rfl rfl (hb hby d11_122)
  have N371 := Fr.snoc X371 N357 g_b281
  have V371 := Arv.set Ar369 q369 S369 M369 H369 Gf369 rfl W371 2 rfl (Nat.le_of_ble_eq_true rfl)
  have V371' : Arv Z h371 b281 k281 .int (3 : Int32) [(.int (0 : Int32)), (.int (1 : Int32)), (.int (2 : Int32))] (.int (0 : Int32)) := by exact V371
  have G372 : Go p e below A0 (T371.setTop (mkF m 123 #[.val (.ref d), .val (.ref a), .val (.int (0 : Int32)), .val (.int (3 : Int32)), .val (.int (2 : Int32))] [])) := fun tq kq => G367 tq (st371 _ kq)
  have G373 : Go p e below A0 (T371.setTop (mkF m 124 #[.val (.ref d), .val (.ref a), .val (.int (0 : Int32)), .val (.int (3 : Int32)), .val (.int (2 : Int32))] [(.ref d)])) := fun tq kq => G372 tq (by
    refine XS.aloadN X371.here hx rfl (hb hby d11_123) rfl rfl ?_
    show Steps p.tables e below (T371.setTop (mkF m 124 #[.val (.ref d), .val (.ref a), .val (.int (0 : Int32)), .val (.int (3 : Int32)), .val (.int (2 : Int32))] [(.ref d)])) _
    exact kq)
  have f374 := ((f346.other W357 (Or.inl (Nat.ne_of_lt lt_d_b294))).other W371 (Or.inl (Nat.ne_of_lt lt_d_b281)))
  obtain ⟨T375, X375, e375, st375⟩ := getF X371 hx hZ hown (host := "") (Or.inl (hw _ (List.mem_of_getElem? (i := 107) rfl))) Via.refl e371 f374 (g := (mkF m 124 #[.val (.ref d), .val (.ref a), .val (.int (0 : Int32)), .val (.int (3 : Int32)), .val (.int (2 : Int32))] [(.ref d)])) rfl rfl (hb hby d11_124)
  have G376 : Go p e below A0 (T375.setTop (mkF m 127 #[.val (.ref d), .val (.ref a), .val (.int (0 : Int32)), .val (.int (3 : Int32)), .val (.int (2 : Int32))] [(.ref b223)])) := fun tq kq => G373 tq (st375 _ kq)
  have G377 : Go p e below A0 (T375.setTop (mkF m 128 #[.val (.ref d), .val (.ref a), .val (.int (0 : Int32)), .val (.int (3 : Int32)), .val (.int (2 : Int32))] [(.int (0 : Int32)), (.ref b223)])) := fun tq kq => G376 tq (by
    refine XS.iloadN X375.here hx rfl (hb hby d11_127) rfl ?_
    show Steps p.tables e below (T375.setTop (mkF m 128 #[.val (.ref d), .val (.ref a), .val (.int (0 : Int32)), .val (.int (3 : Int32)), .val (.int (2 : Int32))] [(.int (0 : Int32)), (.ref b223)])) _
    exact kq)
  have f378 := ((f350.other W357 (Nat.ne_of_lt lt_b223_b294)).other W371 (Nat.ne_of_lt lt_b223_b281))
  obtain ⟨cl379, Ar379, q379, S379, M379, H379, Gf379⟩ := id f378
  have hi380 : ¬ ((0 : Int32) < 0 ∨ cl379.slots.size ≤ ((0 : Int32)).toNatClampNeg) := (inb_of S379 ⟨by decide, by decide⟩)
  have G381 : Go p e below A0 (T375.setTop (mkF m 133 #[.val (.ref d), .val (.ref a), .val (.int (0 : Int32)), .val (.int (3 : Int32)), .val (.int (2 : Int32))] [(.int (2 : Int32)), (.int (2 : Int32)), (.ref b294)])) := fun tq kq => G377 tq (by
    refine X375.aaload hx (j := (0 : Int32)) (v := (.ref b294)) (by rw [e375]; exact Ar379.1) (State.isArrayOf_alike hZ.alike Ar379.2.1) rfl Ar379.2.2 hi380 (H379.at hi380 rfl) (g := (mkF m 128 #[.val (.ref d), .val (.ref a), .val (.int (0 : Int32)), .val (.int (3 : Int32)), .val (.int (2 : Int32))] [(.int (0 : Int32)), (.ref b223)])) rfl rfl (hb hby d11_128) _ ?_
    show Steps p.tables e below (T375.setTop (mkF m 129 #[.val (.ref d), .val (.ref a), .val (.int (0 : Int32)), .val (.int (3 : Int32)), .val (.int (2 : Int32))] [(.ref b294)])) _
    refine XS.iload X375.here hx rfl (hb hby d11_129) rfl ?_
    show Steps p.tables e below (T375.setTop (mkF m 131 #[.val (.ref d), .val (.ref a), .val (.int (0 : Int32)), .val (.int (3 : Int32)), .val (.int (2 : Int32))] [(.int (2 : Int32)), (.ref b294)])) _
    refine XS.iload X375.here hx rfl (hb hby d11_131) rfl ?_
    show Steps p.tables e below (T375.setTop (mkF m 133 #[.val (.ref d), .val (.ref a), .val (.int (0 : Int32)), .val (.int (3 : Int32)), .val (.int (2 : Int32))] [(.int (2 : Int32)), (.int (2 : Int32)), (.ref b294)])) _
    exact kq)
  have f382 := (V357'.other W371 (Ne.symm (Nat.ne_of_lt lt_b281_b294)))
  obtain ⟨cl383, Ar383, q383, S383, M383, H383, Gf383⟩ := id f382
  have hi384 : ¬ ((2 : Int32) < 0 ∨ cl383.slots.size ≤ ((2 : Int32)).toNatClampNeg) := (inb_of S383 ⟨by decide, by decide⟩)
  obtain ⟨T385, h385, X385, e385, W385, st385⟩ := stI X375 hx hZ e375 Ar383 (j := (2 : Int32)) hi384 (g := (mkF m 133 #[.val (.ref d), .val (.ref a), .val (.int (0 : Int32)), .val (.int (3 : Int32)), .val (.int (2 : Int32))] [(.int (2 : Int32)), (.int (2 : Int32)), (.ref b294)])) rfl rfl (hb hby d11_133)
  have N385 := Fr.snoc X385 N371 g_b294
  have V385 := Arv.set Ar383 q383 S383 M383 H383 Gf383 rfl W385 2 rfl (Nat.le_of_ble_eq_true rfl)
  have V385' : Arv Z h385 b294 k294 .int (3 : Int32) [(.int (0 : Int32)), (.int (1 : Int32)), (.int (2 : Int32))] (.int (0 : Int32)) := by exact V385
  have G386 : Go p e below A0 (T385.setTop (mkF m 134 #[.val (.ref d), .val (.ref a), .val (.int (0 : Int32)), .val (.int (3 : Int32)), .val (.int (2 : Int32))] [])) := fun tq kq => G381 tq (st385 _ kq)
  have G387 : Go p e below A0 (T385.setTop (mkF m 141 #[.val (.ref d), .val (.ref a), .val (.int (0 : Int32)), .val (.int (3 : Int32)), .val (.int (3 : Int32))] [(.ref d)])) := fun tq kq => G386 tq (by
    refine XS.iinc X385.here hx rfl (hb hby d11_134) rfl (l' := #[.val (.ref d), .val (.ref a), .val (.int (0 : Int32)), .val (.int (3 : Int32)), .val (.int ((2 : Int32) + (1 : Int32)))]) rfl ?_
    show Steps p.tables e below (T385.setTop (mkF m 137 #[.val (.ref d), .val (.ref a), .val (.int (0 : Int32)), .val (.int (3 : Int32)), .val (.int ((2 : Int32) + (1 : Int32)))] [])) _
    rw [show ((2 : Int32) + (1 : Int32)) = (3 : Int32) from (by decide : ((2 : Int32) + (1 : Int32)) = (3 : Int32))]
    show Steps p.tables e below (T385.setTop (mkF m 137 #[.val (.ref d), .val (.ref a), .val (.int (0 : Int32)), .val (.int (3 : Int32)), .val (.int (3 : Int32))] [])) _
    refine XS.goto X385.here hx rfl (pc0 := 137) (pc' := 106) rfl (hb hby d11_137) (by decide) (by decide) ?_
    show Steps p.tables e below (T385.setTop (mkF m 106 #[.val (.ref d), .val (.ref a), .val (.int (0 : Int32)), .val (.int (3 : Int32)), .val (.int (3 : Int32))] [])) _
    refine XS.iload X385.here hx rfl (hb hby d11_106) rfl ?_
    show Steps p.tables e below (T385.setTop (mkF m 108 #[.val (.ref d), .val (.ref a), .val (.int (0 : Int32)), .val (.int (3 : Int32)), .val (.int (3 : Int32))] [(.int (3 : Int32))])) _
    refine XS.iloadN X385.here hx rfl (hb hby d11_108) rfl ?_
    show Steps p.tables e below (T385.setTop (mkF m 109 #[.val (.ref d), .val (.ref a), .val (.int (0 : Int32)), .val (.int (3 : Int32)), .val (.int (3 : Int32))] [(.int (3 : Int32)), (.int (3 : Int32))])) _
    refine XS.icmpYes X385.here hx rfl (pc0 := 109) (pc' := 140) rfl (hb hby d11_109) rfl (by decide) (by decide) (by decide) ?_
    show Steps p.tables e below (T385.setTop (mkF m 140 #[.val (.ref d), .val (.ref a), .val (.int (0 : Int32)), .val (.int (3 : Int32)), .val (.int (3 : Int32))] [])) _
    refine XS.aloadN X385.here hx rfl (hb hby d11_140) rfl rfl ?_
    show Steps p.tables e below (T385.setTop (mkF m 141 #[.val (.ref d), .val (.ref a), .val (.int (0 : Int32)), .val (.int (3 : Int32)), .val (.int (3 : Int32))] [(.ref d)])) _
    exact kq)
  have f388 := ((((((((((((fw241.ext E249).other W254 (Or.inr (slot_ne (Or.inr (hw _ (List.mem_of_getElem? (i := 110) rfl))) (Or.inr (hw _ (List.mem_of_getElem? (i := 112) rfl))) (by decide) (t := (.array .int)) (t' := (.array (.array .int))) (by decide) (by decide)))).ext E281).other W287 (Or.inl (Nat.ne_of_lt lt_d_b210))).ext E294).other W301 (Or.inl (Nat.ne_of_lt lt_d_b223))).other W315 (Or.inl (Nat.ne_of_lt lt_d_b281))).other W329 (Or.inl (Nat.ne_of_lt lt_d_b294))).other W343 (Or.inl (Nat.ne_of_lt lt_d_b281))).other W357 (Or.inl (Nat.ne_of_lt lt_d_b294))).other W371 (Or.inl (Nat.ne_of_lt lt_d_b281))).other W385 (Or.inl (Nat.ne_of_lt lt_d_b294)))
  obtain ⟨T389, X389, e389, st389⟩ := getF X385 hx hZ hown (host := "") (Or.inl (hw _ (List.mem_of_getElem? (i := 109) rfl))) Via.refl e385 f388 (g := (mkF m 141 #[.val (.ref d), .val (.ref a), .val (.int (0 : Int32)), .val (.int (3 : Int32)), .val (.int (3 : Int32))] [(.ref d)])) rfl rfl (hb hby d11_141)
  have G390 : Go p e below A0 (T389.setTop (mkF m 144 #[.val (.ref d), .val (.ref a), .val (.int (0 : Int32)), .val (.int (3 : Int32)), .val (.int (3 : Int32))] [(.ref b236)])) := fun tq kq => G387 tq (st389 _ kq)
  have G391 : Go p e below A0 (T389.setTop (mkF m 146 #[.val (.ref d), .val (.ref a), .val (.int (0 : Int32)), .val (.int (3 : Int32)), .val (.int (3 : Int32))] [(.int (3 : Int32)), (.int (0 : Int32)), (.ref b236)])) := fun tq kq => G390 tq (by
    refine XS.iloadN X389.here hx rfl (hb hby d11_144) rfl ?_
    show Steps p.tables e below (T389.setTop (mkF m 145 #[.val (.ref d), .val (.ref a), .val (.int (0 : Int32)), .val (.int (3 : Int32)), .val (.int (3 : Int32))] [(.int (0 : Int32)), (.ref b236)])) _
    refine XS.iloadN X389.here hx rfl (hb hby d11_145) rfl ?_
    show Steps p.tables e below (T389.setTop (mkF m 146 #[.val (.ref d), .val (.ref a), .val (.int (0 : Int32)), .val (.int (3 : Int32)), .val (.int (3 : Int32))] [(.int (3 : Int32)), (.int (0 : Int32)), (.ref b236)])) _
    exact kq)
  have f392 := (((((((((((((V236.other W241 (Ne.symm (Nat.ne_of_lt lt_d_b236))).ext E249).other W254 (Ne.symm (Nat.ne_of_lt lt_d_b236))).ext E281).other W287 (Ne.symm (Nat.ne_of_lt lt_b210_b236))).ext E294).other W301 (Ne.symm (Nat.ne_of_lt lt_b223_b236))).other W315 (Nat.ne_of_lt lt_b236_b281)).other W329 (Nat.ne_of_lt lt_b236_b294)).other W343 (Nat.ne_of_lt lt_b236_b281)).other W357 (Nat.ne_of_lt lt_b236_b294)).other W371 (Nat.ne_of_lt lt_b236_b281)).other W385 (Nat.ne_of_lt lt_b236_b294))
  obtain ⟨cl393, Ar393, q393, S393, M393, H393, Gf393⟩ := id f392
  have hi394 : ¬ ((0 : Int32) < 0 ∨ cl393.slots.size ≤ ((0 : Int32)).toNatClampNeg) := (inb_of S393 ⟨by decide, by decide⟩)
  obtain ⟨T395, h395, X395, e395, W395, st395⟩ := stI X389 hx hZ e389 Ar393 (j := (0 : Int32)) hi394 (g := (mkF m 146 #[.val (.ref d), .val (.ref a), .val (.int (0 : Int32)), .val (.int (3 : Int32)), .val (.int (3 : Int32))] [(.int (3 : Int32)), (.int (0 : Int32)), (.ref b236)])) rfl rfl (hb hby d11_146)
  have N395 := Fr.snoc X395 N385 g_b236
  have V395 := Arv.set Ar393 q393 S393 M393 H393 Gf393 rfl W395 0 rfl (Nat.le_of_ble_eq_true rfl)
  have V395' : Arv Z h395 b236 k236 .int (2 : Int32) [(.int (3 : Int32)), (.int (0 : Int32))] (.int (0 : Int32)) := by exact V395
  have G396 : Go p e below A0 (T395.setTop (mkF m 147 #[.val (.ref d), .val (.ref a), .val (.int (0 : Int32)), .val (.int (3 : Int32)), .val (.int (3 : Int32))] [])) := fun tq kq => G391 tq (st395 _ kq)
  have G397 : Go p e below A0 (T395.setTop (mkF m 148 #[.val (.ref d), .val (.ref a), .val (.int (0 : Int32)), .val (.int (3 : Int32)), .val (.int (3 : Int32))] [(.ref d)])) := fun tq kq => G396 tq (by
    refine XS.aloadN X395.here hx rfl (hb hby d11_147) rfl rfl ?_
    show Steps p.tables e below (T395.setTop (mkF m 148 #[.val (.ref d), .val (.ref a), .val (.int (0 : Int32)), .val (.int (3 : Int32)), .val (.int (3 : Int32))] [(.ref d)])) _
    exact kq)
  have f398 := (((((((((((fw254.ext E281).other W287 (Or.inl (Nat.ne_of_lt lt_d_b210))).ext E294).other W301 (Or.inl (Nat.ne_of_lt lt_d_b223))).other W315 (Or.inl (Nat.ne_of_lt lt_d_b281))).other W329 (Or.inl (Nat.ne_of_lt lt_d_b294))).other W343 (Or.inl (Nat.ne_of_lt lt_d_b281))).other W357 (Or.inl (Nat.ne_of_lt lt_d_b294))).other W371 (Or.inl (Nat.ne_of_lt lt_d_b281))).other W385 (Or.inl (Nat.ne_of_lt lt_d_b294))).other W395 (Or.inl (Nat.ne_of_lt lt_d_b236)))
  obtain ⟨T399, X399, e399, st399⟩ := getF X395 hx hZ hown (host := "") (Or.inl (hw _ (List.mem_of_getElem? (i := 111) rfl))) Via.refl e395 f398 (g := (mkF m 148 #[.val (.ref d), .val (.ref a), .val (.int (0 : Int32)), .val (.int (3 : Int32)), .val (.int (3 : Int32))] [(.ref d)])) rfl rfl (hb hby d11_148)
  have G400 : Go p e below A0 (T399.setTop (mkF m 151 #[.val (.ref d), .val (.ref a), .val (.int (0 : Int32)), .val (.int (3 : Int32)), .val (.int (3 : Int32))] [(.ref b249)])) := fun tq kq => G397 tq (st399 _ kq)
  have G401 : Go p e below A0 (T399.setTop (mkF m 153 #[.val (.ref d), .val (.ref a), .val (.int (0 : Int32)), .val (.int (3 : Int32)), .val (.int (3 : Int32))] [(.int (3 : Int32)), (.int (0 : Int32)), (.ref b249)])) := fun tq kq => G400 tq (by
    refine XS.iloadN X399.here hx rfl (hb hby d11_151) rfl ?_
    show Steps p.tables e below (T399.setTop (mkF m 152 #[.val (.ref d), .val (.ref a), .val (.int (0 : Int32)), .val (.int (3 : Int32)), .val (.int (3 : Int32))] [(.int (0 : Int32)), (.ref b249)])) _
    refine XS.iloadN X399.here hx rfl (hb hby d11_152) rfl ?_
    show Steps p.tables e below (T399.setTop (mkF m 153 #[.val (.ref d), .val (.ref a), .val (.int (0 : Int32)), .val (.int (3 : Int32)), .val (.int (3 : Int32))] [(.int (3 : Int32)), (.int (0 : Int32)), (.ref b249)])) _
    exact kq)
  have f403 := (Nat.le_trans (Nat.le_trans (Nat.le_trans (Nat.le_trans (Nat.le_trans (Nat.le_trans (Nat.le_trans (Nat.le_trans (Nat.le_trans f295 E294.1) (Keep.of_wr W301).1) (Keep.of_wr W315).1) (Keep.of_wr W329).1) (Keep.of_wr W343).1) (Keep.of_wr W357).1) (Keep.of_wr W371).1) (Keep.of_wr W385).1) (Keep.of_wr W395).1)
  obtain ⟨T402, h402, k402, X402, e402, E402, A402, Ex402, st402⟩ := newPE X399 hx hZ (hw _ (List.mem_of_getElem? (i := 38) rfl)) e399 (g := (mkF m 153 #[.val (.ref d), .val (.ref a), .val (.int (0 : Int32)), .val (.int (3 : Int32)), .val (.int (3 : Int32))] [(.int (3 : Int32)), (.int (0 : Int32)), (.ref b249)])) rfl (hb hby d11_153) rfl (by decide) (cap := 3) (by decide) (by decide) (by decide) (by decide) (ad := "[I") (by decide)
  obtain ⟨b402, g402⟩ : ∃ z, z = h395.size := ⟨_, rfl⟩
  rw [← g402] at A402 st402 Ex402
  have f404 := (Nat.le_trans (Nat.le_trans (Nat.le_trans (Nat.le_trans (Nat.le_trans (Nat.le_trans (Nat.le_trans (Nat.le_trans (Nat.le_trans f296 E294.1) (Keep.of_wr W301).1) (Keep.of_wr W315).1) (Keep.of_wr W329).1) (Keep.of_wr W343).1) (Keep.of_wr W357).1) (Keep.of_wr W371).1) (Keep.of_wr W385).1) (Keep.of_wr W395).1)
  have sz_b402 : h0.size ≤ b402 := Nat.le_trans f404 (Nat.le_of_eq g402.symm)
  have g_b402 : n0 ≤ b402 := Nat.le_trans f403 (Nat.le_of_eq g402.symm)
  have lt_d_b402 : d < b402 := Nat.lt_of_lt_of_le ((((((((((((f252.wr W254).ext E281).wr W287).ext E294).wr W301).wr W315).wr W329).wr W343).wr W357).wr W371).wr W385).wr W395).lt (Nat.le_of_eq g402.symm)
  have lt_a_b402 : a < b402 := Nat.lt_of_lt_of_le (((((((((((f264.ext E281).wr W287).ext E294).wr W301).wr W315).wr W329).wr W343).wr W357).wr W371).wr W385).wr W395).lt (Nat.le_of_eq g402.symm)
  have lt_b_b402 : b < b402 := Nat.lt_of_lt_of_le (((((((((((f267.ext E281).other W287 (Nat.ne_of_lt lt_b_b210)).ext E294).other W301 (Nat.ne_of_lt lt_b_b223)).other W315 (Nat.ne_of_lt lt_b_b281)).other W329 (Nat.ne_of_lt lt_b_b294)).other W343 (Nat.ne_of_lt lt_b_b281)).other W357 (Nat.ne_of_lt lt_b_b294)).other W371 (Nat.ne_of_lt lt_b_b281)).other W385 (Nat.ne_of_lt lt_b_b294)).other W395 (Nat.ne_of_lt lt_b_b236)).lt (Nat.le_of_eq g402.symm)
  have lt_x_b402 : x < b402 := Nat.lt_of_lt_of_le (((((((((((f270.ext E281).wr W287).ext E294).wr W301).wr W315).wr W329).wr W343).wr W357).wr W371).wr W385).wr W395).lt (Nat.le_of_eq g402.symm)
  have lt_cx_b402 : cx < b402 := Nat.lt_of_lt_of_le (((((((((((f275.ext E281).other W287 (Nat.ne_of_lt lt_cx_b210)).ext E294).other W301 (Nat.ne_of_lt lt_cx_b223)).other W315 (Nat.ne_of_lt lt_cx_b281)).other W329 (Nat.ne_of_lt lt_cx_b294)).other W343 (Nat.ne_of_lt lt_cx_b281)).other W357 (Nat.ne_of_lt lt_cx_b294)).other W371 (Nat.ne_of_lt lt_cx_b281)).other W385 (Nat.ne_of_lt lt_cx_b294)).other W395 (Nat.ne_of_lt lt_cx_b236)).lt (Nat.le_of_eq g402.symm)
  have lt_y_b402 : y < b402 := Nat.lt_of_lt_of_le ((((((((((((((((((((Ey.wr W202).ext E210).wr W215).ext E223).wr W228).ext E236).wr W241).ext E249).wr W254).ext E281).wr W287).ext E294).wr W301).wr W315).wr W329).wr W343).wr W357).wr W371).wr W385).wr W395).lt (Nat.le_of_eq g402.symm)
  have lt_cy_b402 : cy < b402 := Nat.lt_of_lt_of_le ((((((((((((((((((((Ay.other W202 (Ne.symm hn_cy)).ext E210).other W215 (Ne.symm hn_cy)).ext E223).other W228 (Ne.symm hn_cy)).ext E236).other W241 (Ne.symm hn_cy)).ext E249).other W254 (Ne.symm hn_cy)).ext E281).other W287 (Nat.ne_of_lt lt_cy_b210)).ext E294).other W301 (Nat.ne_of_lt lt_cy_b223)).other W315 (Nat.ne_of_lt lt_cy_b281)).other W329 (Nat.ne_of_lt lt_cy_b294)).other W343 (Nat.ne_of_lt lt_cy_b281)).other W357 (Nat.ne_of_lt lt_cy_b294)).other W371 (Nat.ne_of_lt lt_cy_b281)).other W385 (Nat.ne_of_lt lt_cy_b294)).other W395 (Nat.ne_of_lt lt_cy_b236)).lt (Nat.le_of_eq g402.symm)
  have lt_b210_b402 : b210 < b402 := Nat.lt_of_lt_of_le (((f364.other W371 (Nat.ne_of_lt lt_b210_b281)).other W385 (Nat.ne_of_lt lt_b210_b294)).other W395 (Nat.ne_of_lt lt_b210_b236)).lt (Nat.le_of_eq g402.symm)
  have lt_b223_b402 : b223 < b402 := Nat.lt_of_lt_of_le ((f378.other W385 (Nat.ne_of_lt lt_b223_b294)).other W395 (Nat.ne_of_lt lt_b223_b236)).lt (Nat.le_of_eq g402.symm)
  have lt_b236_b402 : b236 < b402 := Nat.lt_of_lt_of_le V395'.lt (Nat.le_of_eq g402.symm)
  have lt_b249_b402 : b249 < b402 := Nat.lt_of_lt_of_le ((((((((((((V249.other W254 (Ne.symm (Nat.ne_of_lt lt_d_b249))).ext E281).other W287 (Ne.symm (Nat.ne_of_lt lt_b210_b249))).ext E294).other W301 (Ne.symm (Nat.ne_of_lt lt_b223_b249))).other W315 (Nat.ne_of_lt lt_b249_b281)).other W329 (Nat.ne_of_lt lt_b249_b294)).other W343 (Nat.ne_of_lt lt_b249_b281)).other W357 (Nat.ne_of_lt lt_b249_b294)).other W371 (Nat.ne_of_lt lt_b249_b281)).other W385 (Nat.ne_of_lt lt_b249_b294)).other W395 (Ne.symm (Nat.ne_of_lt lt_b236_b249))).lt (Nat.le_of_eq g402.symm)
  have lt_b281_b402 : b281 < b402 := Nat.lt_of_lt_of_le ((V371'.other W385 (Nat.ne_of_lt lt_b281_b294)).other W395 (Ne.symm (Nat.ne_of_lt lt_b236_b281))).lt (Nat.le_of_eq g402.symm)
  have lt_b294_b402 : b294 < b402 := Nat.lt_of_lt_of_le (V385'.other W395 (Ne.symm (Nat.ne_of_lt lt_b236_b294))).lt (Nat.le_of_eq g402.symm)
  have V402 : Arv Z h402 b402 k402 .int (3 : Int32) [(.int (0 : Int32)), (.int (0 : Int32)), (.int (0 : Int32))] (.int (0 : Int32)) := (Arv.new A402 (by decide)).pad (pad_rep [] (.int (0 : Int32)) 3)
  have G405 : Go p e below A0 (T402.setTop (mkF m 155 #[.val (.ref d), .val (.ref a), .val (.int (0 : Int32)), .val (.int (3 : Int32)), .val (.int (3 : Int32))] [(.ref b402), (.int (0 : Int32)), (.ref b249)])) := fun tq kq => G401 tq (st402 _ kq)
  have f406 := (((((((((((((V249.other W254 (Ne.symm (Nat.ne_of_lt lt_d_b249))).ext E281).other W287 (Ne.symm (Nat.ne_of_lt lt_b210_b249))).ext E294).other W301 (Ne.symm (Nat.ne_of_lt lt_b223_b249))).other W315 (Nat.ne_of_lt lt_b249_b281)).other W329 (Nat.ne_of_lt lt_b249_b294)).other W343 (Nat.ne_of_lt lt_b249_b281)).other W357 (Nat.ne_of_lt lt_b249_b294)).other W371 (Nat.ne_of_lt lt_b249_b281)).other W385 (Nat.ne_of_lt lt_b249_b294)).other W395 (Ne.symm (Nat.ne_of_lt lt_b236_b249))).ext E402)
  obtain ⟨cl407, Ar407, q407, S407, M407, H407, Gf407⟩ := id f406
  have hi408 : ¬ ((0 : Int32) < 0 ∨ cl407.slots.size ≤ ((0 : Int32)).toNatClampNeg) := (inb_of S407 ⟨by decide, by decide⟩)
  obtain ⟨T409, h409, X409, e409, W409, st409⟩ := stR X402 hx hZ e402 Ar407 (j := (0 : Int32)) hi408 rfl (Sto.ofVA Ar407 q407 O249 (Ins.self Ex402)) (g := (mkF m 155 #[.val (.ref d), .val (.ref a), .val (.int (0 : Int32)), .val (.int (3 : Int32)), .val (.int (3 : Int32))] [(.ref b402), (.int (0 : Int32)), (.ref b249)])) rfl rfl (hb hby d11_155)
  have N409 := Fr.snoc X409 N395 g_b249
  have V409 := Arv.set Ar407 q407 S407 M407 H407 Gf407 rfl W409 0 rfl (Nat.le_of_ble_eq_true rfl)
  have V409' : Arv Z h409 b249 k249 (.array .int) (2 : Int32) [(.ref b402), .null] .null := by exact V409
  have G410 : Go p e below A0 (T409.setTop (mkF m 156 #[.val (.ref d), .val (.ref a), .val (.int (0 : Int32)), .val (.int (3 : Int32)), .val (.int (3 : Int32))] [])) := fun tq kq => G405 tq (st409 _ kq)
  have G411 : Go p e below A0 (T409.setTop (mkF m 64 #[.val (.ref d), .val (.ref a), .val (.int (1 : Int32)), .val (.int (3 : Int32)), .val (.int (3 : Int32))] [(.ref d), (.int (1 : Int32))])) := fun tq kq => G410 tq (by
    refine XS.iinc X409.here hx rfl (hb hby d11_156) rfl (l' := #[.val (.ref d), .val (.ref a), .val (.int ((0 : Int32) + (1 : Int32))), .val (.int (3 : Int32)), .val (.int (3 : Int32))]) rfl ?_
    show Steps p.tables e below (T409.setTop (mkF m 159 #[.val (.ref d), .val (.ref a), .val (.int ((0 : Int32) + (1 : Int32))), .val (.int (3 : Int32)), .val (.int (3 : Int32))] [])) _
    rw [show ((0 : Int32) + (1 : Int32)) = (1 : Int32) from (by decide : ((0 : Int32) + (1 : Int32)) = (1 : Int32))]
    show Steps p.tables e below (T409.setTop (mkF m 159 #[.val (.ref d), .val (.ref a), .val (.int (1 : Int32)), .val (.int (3 : Int32)), .val (.int (3 : Int32))] [])) _
    refine XS.goto X409.here hx rfl (pc0 := 159) (pc' := 62) rfl (hb hby d11_159) (by decide) (by decide) ?_
    show Steps p.tables e below (T409.setTop (mkF m 62 #[.val (.ref d), .val (.ref a), .val (.int (1 : Int32)), .val (.int (3 : Int32)), .val (.int (3 : Int32))] [])) _
    refine XS.iloadN X409.here hx rfl (hb hby d11_62) rfl ?_
    show Steps p.tables e below (T409.setTop (mkF m 63 #[.val (.ref d), .val (.ref a), .val (.int (1 : Int32)), .val (.int (3 : Int32)), .val (.int (3 : Int32))] [(.int (1 : Int32))])) _
    refine XS.aloadN X409.here hx rfl (hb hby d11_63) rfl rfl ?_
    show Steps p.tables e below (T409.setTop (mkF m 64 #[.val (.ref d), .val (.ref a), .val (.int (1 : Int32)), .val (.int (3 : Int32)), .val (.int (3 : Int32))] [(.ref d), (.int (1 : Int32))])) _
    exact kq)
  have f412 := (((((f360.other W371 (Or.inl (Nat.ne_of_lt lt_d_b281))).other W385 (Or.inl (Nat.ne_of_lt lt_d_b294))).other W395 (Or.inl (Nat.ne_of_lt lt_d_b236))).ext E402).other W409 (Or.inl (Nat.ne_of_lt lt_d_b249)))
  obtain ⟨T413, X413, e413, st413⟩ := getF X409 hx hZ hown (host := "") (Or.inl (hw _ (List.mem_of_getElem? (i := 105) rfl))) Via.refl e409 f412 (g := (mkF m 64 #[.val (.ref d), .val (.ref a), .val (.int (1 : Int32)), .val (.int (3 : Int32)), .val (.int (3 : Int32))] [(.ref d), (.int (1 : Int32))])) rfl rfl (hb hby d11_64)
  have G414 : Go p e below A0 (T413.setTop (mkF m 67 #[.val (.ref d), .val (.ref a), .val (.int (1 : Int32)), .val (.int (3 : Int32)), .val (.int (3 : Int32))] [(.ref b210), (.int (1 : Int32))])) := fun tq kq => G411 tq (st413 _ kq)
  have f415 := (((((f364.other W371 (Nat.ne_of_lt lt_b210_b281)).other W385 (Nat.ne_of_lt lt_b210_b294)).other W395 (Nat.ne_of_lt lt_b210_b236)).ext E402).other W409 (Nat.ne_of_lt lt_b210_b249))
  obtain ⟨cl416, Ar416, q416, S416, M416, H416, Gf416⟩ := id f415
  have G417 : Go p e below A0 (T413.setTop (mkF m 73 #[.val (.ref d), .val (.ref a), .val (.int (1 : Int32)), .val (.int (3 : Int32)), .val (.int (3 : Int32))] [(.int (1 : Int32)), (.ref a)])) := fun tq kq => G414 tq (by
    refine X413.arraylength hx (by rw [e413]; exact Ar416.1) (State.isArrayOf_alike hZ.alike Ar416.2.1) (g := (mkF m 67 #[.val (.ref d), .val (.ref a), .val (.int (1 : Int32)), .val (.int (3 : Int32)), .val (.int (3 : Int32))] [(.ref b210), (.int (1 : Int32))])) rfl rfl (hb hby d11_67) _ ?_
    rw [len_of S416 M416]
    show Steps p.tables e below (T413.setTop (mkF m 68 #[.val (.ref d), .val (.ref a), .val (.int (1 : Int32)), .val (.int (3 : Int32)), .val (.int (3 : Int32))] [(.int (2 : Int32)), (.int (1 : Int32))])) _
    refine XS.icmpNo X413.here hx rfl (hb hby d11_68) rfl (by decide) ?_
    show Steps p.tables e below (T413.setTop (mkF m 71 #[.val (.ref d), .val (.ref a), .val (.int (1 : Int32)), .val (.int (3 : Int32)), .val (.int (3 : Int32))] [])) _
    refine XS.aloadN X413.here hx rfl (hb hby d11_71) rfl rfl ?_
    show Steps p.tables e below (T413.setTop (mkF m 72 #[.val (.ref d), .val (.ref a), .val (.int (1 : Int32)), .val (.int (3 : Int32)), .val (.int (3 : Int32))] [(.ref a)])) _
    refine XS.iloadN X413.here hx rfl (hb hby d11_72) rfl ?_
    show Steps p.tables e below (T413.setTop (mkF m 73 #[.val (.ref d), .val (.ref a), .val (.int (1 : Int32)), .val (.int (3 : Int32)), .val (.int (3 : Int32))] [(.int (1 : Int32)), (.ref a)])) _
    exact kq)
  have f419 := (((((((((((((f264.ext E281).wr W287).ext E294).wr W301).wr W315).wr W329).wr W343).wr W357).wr W371).wr W385).wr W395).ext E402).wr W409)
  have f420 := (((((((((((((f265.ext E281).other W287 (Or.inl (Nat.ne_of_lt lt_a_b210))).ext E294).other W301 (Or.inl (Nat.ne_of_lt lt_a_b223))).other W315 (Or.inl (Nat.ne_of_lt lt_a_b281))).other W329 (Or.inl (Nat.ne_of_lt lt_a_b294))).other W343 (Or.inl (Nat.ne_of_lt lt_a_b281))).other W357 (Or.inl (Nat.ne_of_lt lt_a_b294))).other W371 (Or.inl (Nat.ne_of_lt lt_a_b281))).other W385 (Or.inl (Nat.ne_of_lt lt_a_b294))).other W395 (Or.inl (Nat.ne_of_lt lt_a_b236))).ext E402).other W409 (Or.inl (Nat.ne_of_lt lt_a_b249)))
  have f421 := (((((((((((((f266.ext E281).other W287 (Or.inl (Nat.ne_of_lt lt_a_b210))).ext E294).other W301 (Or.inl (Nat.ne_of_lt lt_a_b223))).other W315 (Or.inl (Nat.ne_of_lt lt_a_b281))).other W329 (Or.inl (Nat.ne_of_lt lt_a_b294))).other W343 (Or.inl (Nat.ne_of_lt lt_a_b281))).other W357 (Or.inl (Nat.ne_of_lt lt_a_b294))).other W371 (Or.inl (Nat.ne_of_lt lt_a_b281))).other W385 (Or.inl (Nat.ne_of_lt lt_a_b294))).other W395 (Or.inl (Nat.ne_of_lt lt_a_b236))).ext E402).other W409 (Or.inl (Nat.ne_of_lt lt_a_b249)))
  have f422 := (((((((((((((f267.ext E281).other W287 (Nat.ne_of_lt lt_b_b210)).ext E294).other W301 (Nat.ne_of_lt lt_b_b223)).other W315 (Nat.ne_of_lt lt_b_b281)).other W329 (Nat.ne_of_lt lt_b_b294)).other W343 (Nat.ne_of_lt lt_b_b281)).other W357 (Nat.ne_of_lt lt_b_b294)).other W371 (Nat.ne_of_lt lt_b_b281)).other W385 (Nat.ne_of_lt lt_b_b294)).other W395 (Nat.ne_of_lt lt_b_b236)).ext E402).other W409 (Nat.ne_of_lt lt_b_b249))
  have f423 := (Nat.le_trans (Nat.le_trans f403 E402.1) (Keep.of_wr W409).1)
  obtain ⟨cq418, kq418, q418a, q418b, q418c⟩ := isOf hZ e413 f419
  obtain ⟨_, _, ⟨T418, L418, k418, n418⟩, -, X418, ⟨Lc418, hQ418, l418, y418, z418⟩, st418⟩ := X413.interfaceBack hx (xi := (⟨"java/util/List", "get", "(I)Ljava/lang/Object;"⟩ : MethodName)) (y := (⟨"java/util/ArrayList", "get", "(I)Ljava/lang/Object;"⟩ : MethodName)) hown (mvT hZ (hw _ (List.mem_of_getElem? (i := 113) rfl))) (mvT hZ (hw _ (List.mem_of_getElem? (i := 114) rfl))) (mvT hZ (hw _ (List.mem_of_getElem? (i := 115) rfl))) (mvT hZ (hw _ (List.mem_of_getElem? (i := 116) rfl))) (mvT hZ (hw _ (List.mem_of_getElem? (i := 117) rfl))) (mvT hZ (hw _ (List.mem_of_getElem? (i := 118) rfl))) (mvT hZ (hw _ (List.mem_of_getElem? (i := 119) rfl))) (mvT hZ (hw _ (List.mem_of_getElem? (i := 101) rfl))) (by decide) (backOf (W := 0) (rmGT1 l Z a0 hw [] a b x y kb h409 n0 f423 f419 f420 f421 f422) hZ (hw _ (List.mem_of_getElem? (i := 120) rfl)) (hw _ (List.mem_of_getElem? (i := 3) rfl)) (by decide) (by decide)) q418a q418b q418c (g := (mkF m 73 #[.val (.ref d), .val (.ref a), .val (.int (1 : Int32)), .val (.int (3 : Int32)), .val (.int (3 : Int32))] [(.int (1 : Int32)), (.ref a)])) rfl (by rw [hml]; rfl) (Steps.refl _) (argsL := [(.int (1 : Int32))]) (rest := []) (lenOf pd_6 rfl) rfl (by show 2 * 0 + _ ≤ _; exact Nat.le_of_eq rfl) (hb hby d11_73) (fun _ _ => ⟨rfl, e413, (by decide : 7 + 0 ≤ _), (by decide : 17 + 0 ≤ _)⟩)
  dsimp only [Pt.U, Pt.locs, Pt.cells, Pt.slots] at X418 l418 y418 z418 st418 hQ418
  obtain rfl : k418 = 7 := y418
  obtain rfl : n418 = 17 := z418
  obtain ⟨rfl, N418q, e418⟩ := hQ418
  have N418 : Fr n0 L418 := by rw [l418]; exact Fr.app N409 N418q
  have G424 : Go p e below A0 (T418.setTop (mkF m 78 #[.val (.ref d), .val (.ref a), .val (.int (1 : Int32)), .val (.int (3 : Int32)), .val (.int (3 : Int32))] [(.ref y)])) := fun tq kq => G417 tq (st418.trans kq)
  have f425 := ((((((((((((((((((((((Ey.wr W202).ext E210).wr W215).ext E223).wr W228).ext E236).wr W241).ext E249).wr W254).ext E281).wr W287).ext E294).wr W301).wr W315).wr W329).wr W343).wr W357).wr W371).wr W385).wr W395).ext E402).wr W409)
  obtain ⟨T426, X426, e426, st426⟩ := castY X418 hx hZ hown (hw _ (List.mem_of_getElem? (i := 134) rfl)) e418 (Ins.self f425) (g := (mkF m 78 #[.val (.ref d), .val (.ref a), .val (.int (1 : Int32)), .val (.int (3 : Int32)), .val (.int (3 : Int32))] [(.ref y)])) rfl rfl (hb hby d11_78)
  have G427 : Go p e below A0 (T426.setTop (mkF m 81 #[.val (.ref d), .val (.ref a), .val (.int (1 : Int32)), .val (.int (3 : Int32)), .val (.int (3 : Int32))] [(.ref y)])) := fun tq kq => G424 tq (st426 _ kq)
  have f429 := ((((((((((((((((((((((Fy.other W202 (Or.inl (Ne.symm hn_y))).ext E210).other W215 (Or.inl (Ne.symm hn_y))).ext E223).other W228 (Or.inl (Ne.symm hn_y))).ext E236).other W241 (Or.inl (Ne.symm hn_y))).ext E249).other W254 (Or.inl (Ne.symm hn_y))).ext E281).other W287 (Or.inl (Nat.ne_of_lt lt_y_b210))).ext E294).other W301 (Or.inl (Nat.ne_of_lt lt_y_b223))).other W315 (Or.inl (Nat.ne_of_lt lt_y_b281))).other W329 (Or.inl (Nat.ne_of_lt lt_y_b294))).other W343 (Or.inl (Nat.ne_of_lt lt_y_b281))).other W357 (Or.inl (Nat.ne_of_lt lt_y_b294))).other W371 (Or.inl (Nat.ne_of_lt lt_y_b281))).other W385 (Or.inl (Nat.ne_of_lt lt_y_b294))).other W395 (Or.inl (Nat.ne_of_lt lt_y_b236))).ext E402).other W409 (Or.inl (Nat.ne_of_lt lt_y_b249)))
  have f430 := ((((((((((((((((((((((Ay.other W202 (Ne.symm hn_cy)).ext E210).other W215 (Ne.symm hn_cy)).ext E223).other W228 (Ne.symm hn_cy)).ext E236).other W241 (Ne.symm hn_cy)).ext E249).other W254 (Ne.symm hn_cy)).ext E281).other W287 (Nat.ne_of_lt lt_cy_b210)).ext E294).other W301 (Nat.ne_of_lt lt_cy_b223)).other W315 (Nat.ne_of_lt lt_cy_b281)).other W329 (Nat.ne_of_lt lt_cy_b294)).other W343 (Nat.ne_of_lt lt_cy_b281)).other W357 (Nat.ne_of_lt lt_cy_b294)).other W371 (Nat.ne_of_lt lt_cy_b281)).other W385 (Nat.ne_of_lt lt_cy_b294)).other W395 (Nat.ne_of_lt lt_cy_b236)).ext E402).other W409 (Nat.ne_of_lt lt_cy_b249))
  obtain ⟨cq428, kq428, q428a, q428b, q428c⟩ := isOf hZ e426 f425
  obtain ⟨_, _, ⟨T428, L428, k428, n428⟩, -, X428, ⟨Lc428, hQ428, l428, y428, z428⟩, st428⟩ := X426.virtualBack hx (y := (⟨"com/example/ludarc/ludarc/engine/Variable", "size", "()I"⟩ : MethodName)) (z := (⟨"com/example/ludarc/ludarc/engine/Variable", "size", "()I"⟩ : MethodName)) hown (mvT hZ (hw _ (List.mem_of_getElem? (i := 136) rfl))) (mvT hZ (hw _ (List.mem_of_getElem? (i := 137) rfl))) (notFace_of_selects (args := #[]) (mvT hZ (hw _ (List.mem_of_getElem? (i := 139) rfl)))) (mvT hZ (hw _ (List.mem_of_getElem? (i := 139) rfl))) (mvT hZ (hw _ (List.mem_of_getElem? (i := 138) rfl))) (by decide) (backOf (W := 0) (rm17 l Z a0 hw [] y cy (2 : Int32) ky vsy h409 n0 f423 f429 f430) hZ (hw _ (List.mem_of_getElem? (i := 140) rfl)) (hw _ (List.mem_of_getElem? (i := 29) rfl)) (by decide) (by decide)) q428a q428c (g := (mkF m 81 #[.val (.ref d), .val (.ref a), .val (.int (1 : Int32)), .val (.int (3 : Int32)), .val (.int (3 : Int32))] [(.ref y)])) rfl (by rw [hml]; rfl) (Steps.refl _) (argsL := []) (rest := []) (lenOf pd_7 rfl) rfl (by show 2 * 0 + _ ≤ _; exact Nat.le_of_eq rfl) (hb hby d11_81) (fun _ _ => ⟨rfl, e426, (by decide : 7 + 0 ≤ _), (by decide : 17 + 0 ≤ _)⟩)
  dsimp only [Pt.U, Pt.locs, Pt.cells, Pt.slots] at X428 l428 y428 z428 st428 hQ428
  obtain rfl : k428 = 7 := y428
  obtain rfl : n428 = 17 := z428
  obtain ⟨rfl, N428q, e428⟩ := hQ428
  have N428 : Fr n0 L428 := by rw [l428]; exact Fr.app N418 N428q
  have G431 : Go p e below A0 (T428.setTop (mkF m 84 #[.val (.ref d), .val (.ref a), .val (.int (1 : Int32)), .val (.int (3 : Int32)), .val (.int (3 : Int32))] [(.int (2 : Int32))])) := fun tq kq => G427 tq (st428.trans kq)
  have G432 : Go p e below A0 (T428.setTop (mkF m 86 #[.val (.ref d), .val (.ref a), .val (.int (1 : Int32)), .val (.int (2 : Int32)), .val (.int (3 : Int32))] [(.ref d)])) := fun tq kq => G431 tq (by
    refine XS.istoreN X428.here hx rfl (hb hby d11_84) rfl (l' := #[.val (.ref d), .val (.ref a), .val (.int (1 : Int32)), .val (.int (2 : Int32)), .val (.int (3 : Int32))]) rfl ?_
    show Steps p.tables e below (T428.setTop (mkF m 85 #[.val (.ref d), .val (.ref a), .val (.int (1 : Int32)), .val (.int (2 : Int32)), .val (.int (3 : Int32))] [])) _
    refine XS.aloadN X428.here hx rfl (hb hby d11_85) rfl rfl ?_
    show Steps p.tables e below (T428.setTop (mkF m 86 #[.val (.ref d), .val (.ref a), .val (.int (1 : Int32)), .val (.int (2 : Int32)), .val (.int (3 : Int32))] [(.ref d)])) _
    exact kq)
  obtain ⟨T433, X433, e433, st433⟩ := getF X428 hx hZ hown (host := "") (Or.inl (hw _ (List.mem_of_getElem? (i := 105) rfl))) Via.refl e428 f412 (g := (mkF m 86 #[.val (.ref d), .val (.ref a), .val (.int (1 : Int32)), .val (.int (2 : Int32)), .val (.int (3 : Int32))] [(.ref d)])) rfl rfl (hb hby d11_86)
  have G434 : Go p e below A0 (T433.setTop (mkF m 89 #[.val (.ref d), .val (.ref a), .val (.int (1 : Int32)), .val (.int (2 : Int32)), .val (.int (3 : Int32))] [(.ref b210)])) := fun tq kq => G432 tq (st433 _ kq)
  have G435 : Go p e below A0 (T433.setTop (mkF m 91 #[.val (.ref d), .val (.ref a), .val (.int (1 : Int32)), .val (.int (2 : Int32)), .val (.int (3 : Int32))] [(.int (2 : Int32)), (.int (1 : Int32)), (.ref b210)])) := fun tq kq => G434 tq (by
    refine XS.iloadN X433.here hx rfl (hb hby d11_89) rfl ?_
    show Steps p.tables e below (T433.setTop (mkF m 90 #[.val (.ref d), .val (.ref a), .val (.int (1 : Int32)), .val (.int (2 : Int32)), .val (.int (3 : Int32))] [(.int (1 : Int32)), (.ref b210)])) _
    refine XS.iloadN X433.here hx rfl (hb hby d11_90) rfl ?_
    show Steps p.tables e below (T433.setTop (mkF m 91 #[.val (.ref d), .val (.ref a), .val (.int (1 : Int32)), .val (.int (2 : Int32)), .val (.int (3 : Int32))] [(.int (2 : Int32)), (.int (1 : Int32)), (.ref b210)])) _
    exact kq)
  obtain ⟨T436, h436, k436, X436, e436, E436, A436, Ex436, st436⟩ := newPE X433 hx hZ (hw _ (List.mem_of_getElem? (i := 38) rfl)) e433 (g := (mkF m 91 #[.val (.ref d), .val (.ref a), .val (.int (1 : Int32)), .val (.int (2 : Int32)), .val (.int (3 : Int32))] [(.int (2 : Int32)), (.int (1 : Int32)), (.ref b210)])) rfl (hb hby d11_91) rfl (by decide) (cap := 2) (by decide) (by decide) (by decide) (by decide) (ad := "[I") (by decide)
  obtain ⟨b436, g436⟩ : ∃ z, z = h409.size := ⟨_, rfl⟩
  rw [← g436] at A436 st436 Ex436
  have f437 := (Nat.le_trans (Nat.le_trans f404 E402.1) (Keep.of_wr W409).1)
  have sz_b436 : h0.size ≤ b436 := Nat.le_trans f437 (Nat.le_of_eq g436.symm)
  have g_b436 : n0 ≤ b436 := Nat.le_trans f423 (Nat.le_of_eq g436.symm)
  have lt_d_b436 : d < b436 := Nat.lt_of_lt_of_le ((((((((((((((f252.wr W254).ext E281).wr W287).ext E294).wr W301).wr W315).wr W329).wr W343).wr W357).wr W371).wr W385).wr W395).ext E402).wr W409).lt (Nat.le_of_eq g436.symm)
  have lt_a_b436 : a < b436 := Nat.lt_of_lt_of_le f419.lt (Nat.le_of_eq g436.symm)
  have lt_b_b436 : b < b436 := Nat.lt_of_lt_of_le f422.lt (Nat.le_of_eq g436.symm)
  have lt_x_b436 : x < b436 := Nat.lt_of_lt_of_le (((((((((((((f270.ext E281).wr W287).ext E294).wr W301).wr W315).wr W329).wr W343).wr W357).wr W371).wr W385).wr W395).ext E402).wr W409).lt (Nat.le_of_eq g436.symm)
  have lt_cx_b436 : cx < b436 := Nat.lt_of_lt_of_le (((((((((((((f275.ext E281).other W287 (Nat.ne_of_lt lt_cx_b210)).ext E294).other W301 (Nat.ne_of_lt lt_cx_b223)).other W315 (Nat.ne_of_lt lt_cx_b281)).other W329 (Nat.ne_of_lt lt_cx_b294)).other W343 (Nat.ne_of_lt lt_cx_b281)).other W357 (Nat.ne_of_lt lt_cx_b294)).other W371 (Nat.ne_of_lt lt_cx_b281)).other W385 (Nat.ne_of_lt lt_cx_b294)).other W395 (Nat.ne_of_lt lt_cx_b236)).ext E402).other W409 (Nat.ne_of_lt lt_cx_b249)).lt (Nat.le_of_eq g436.symm)
  have lt_y_b436 : y < b436 := Nat.lt_of_lt_of_le f425.lt (Nat.le_of_eq g436.symm)
  have lt_cy_b436 : cy < b436 := Nat.lt_of_lt_of_le f430.lt (Nat.le_of_eq g436.symm)
  have lt_b210_b436 : b210 < b436 := Nat.lt_of_lt_of_le f415.lt (Nat.le_of_eq g436.symm)
  have lt_b223_b436 : b223 < b436 := Nat.lt_of_lt_of_le ((((f378.other W385 (Nat.ne_of_lt lt_b223_b294)).other W395 (Nat.ne_of_lt lt_b223_b236)).ext E402).other W409 (Nat.ne_of_lt lt_b223_b249)).lt (Nat.le_of_eq g436.symm)
  have lt_b236_b436 : b236 < b436 := Nat.lt_of_lt_of_le ((V395'.ext E402).other W409 (Nat.ne_of_lt lt_b236_b249)).lt (Nat.le_of_eq g436.symm)
  have lt_b249_b436 : b249 < b436 := Nat.lt_of_lt_of_le V409'.lt (Nat.le_of_eq g436.symm)
  have lt_b281_b436 : b281 < b436 := Nat.lt_of_lt_of_le ((((V371'.other W385 (Nat.ne_of_lt lt_b281_b294)).other W395 (Ne.symm (Nat.ne_of_lt lt_b236_b281))).ext E402).other W409 (Ne.symm (Nat.ne_of_lt lt_b249_b281))).lt (Nat.le_of_eq g436.symm)
  have lt_b294_b436 : b294 < b436 := Nat.lt_of_lt_of_le (((V385'.other W395 (Ne.symm (Nat.ne_of_lt lt_b236_b294))).ext E402).other W409 (Ne.symm (Nat.ne_of_lt lt_b249_b294))).lt (Nat.le_of_eq g436.symm)
  have lt_b402_b436 : b402 < b436 := Nat.lt_of_lt_of_le (V402.other W409 (Ne.symm (Nat.ne_of_lt lt_b249_b402))).lt (Nat.le_of_eq g436.symm)
  have V436 : Arv Z h436 b436 k436 .int (2 : Int32) [(.int (0 : Int32)), (.int (0 : Int32))] (.int (0 : Int32)) := (Arv.new A436 (by decide)).pad (pad_rep [] (.int (0 : Int32)) 2)
  have G438 : Go p e below A0 (T436.setTop (mkF m 93 #[.val (.ref d), .val (.ref a), .val (.int (1 : Int32)), .val (.int (2 : Int32)), .val (.int (3 : Int32))] [(.ref b436), (.int (1 : Int32)), (.ref b210)])) := fun tq kq => G435 tq (st436 _ kq)
  have f439 := (f415.ext E436)
  obtain ⟨cl440, Ar440, q440, S440, M440, H440, Gf440⟩ := id f439
  have hi441 : ¬ ((1 : Int32) < 0 ∨ cl440.slots.size ≤ ((1 : Int32)).toNatClampNeg) := (inb_of S440 ⟨by decide, by decide⟩)
  obtain ⟨T442, h442, X442, e442, W442, st442⟩ := stR X436 hx hZ e436 Ar440 (j := (1 : Int32)) hi441 rfl (Sto.ofVA Ar440 q440 O210 (Ins.self Ex436)) (g := (mkF m 93 #[.val (.ref d), .val (.ref a), .val (.int (1 : Int32)), .val (.int (2 : Int32)), .val (.int (3 : Int32))] [(.ref b436), (.int (1 : Int32)), (.ref b210)])) rfl rfl (hb hby d11_93)
  have N442 := Fr.snoc X442 N428 g_b210
  have V442 := Arv.set Ar440 q440 S440 M440 H440 Gf440 rfl W442 1 rfl (Nat.le_of_ble_eq_true rfl)
  have V442' : Arv Z h442 b210 k210 (.array .int) (2 : Int32) [(.ref b281), (.ref b436)] .null := by exact V442
  have G443 : Go p e below A0 (T442.setTop (mkF m 94 #[.val (.ref d), .val (.ref a), .val (.int (1 : Int32)), .val (.int (2 : Int32)), .val (.int (3 : Int32))] [])) := fun tq kq => G438 tq (st442 _ kq)
  have G444 : Go p e below A0 (T442.setTop (mkF m 95 #[.val (.ref d), .val (.ref a), .val (.int (1 : Int32)), .val (.int (2 : Int32)), .val (.int (3 : Int32))] [(.ref d)])) := fun tq kq => G443 tq (by
    refine XS.aloadN X442.here hx rfl (hb hby d11_94) rfl rfl ?_
    show Steps p.tables e below (T442.setTop (mkF m 95 #[.val (.ref d), .val (.ref a), .val (.int (1 : Int32)), .val (.int (2 : Int32)), .val (.int (3 : Int32))] [(.ref d)])) _
    exact kq)
  have f445 := ((((((f374.other W385 (Or.inl (Nat.ne_of_lt lt_d_b294))).other W395 (Or.inl (Nat.ne_of_lt lt_d_b236))).ext E402).other W409 (Or.inl (Nat.ne_of_lt lt_d_b249))).ext E436).other W442 (Or.inl (Nat.ne_of_lt lt_d_b210)))
  obtain ⟨T446, X446, e446, st446⟩ := getF X442 hx hZ hown (host := "") (Or.inl (hw _ (List.mem_of_getElem? (i := 107) rfl))) Via.refl e442 f445 (g := (mkF m 95 #[.val (.ref d), .val (.ref a), .val (.int (1 : Int32)), .val (.int (2 : Int32)), .val (.int (3 : Int32))] [(.ref d)])) rfl rfl (hb hby d11_95)
  have G447 : Go p e below A0 (T446.setTop (mkF m 98 #[.val (.ref d), .val (.ref a), .val (.int (1 : Int32)), .val (.int (2 : Int32)), .val (.int (3 : Int32))] [(.ref b223)])) := fun tq kq => G444 tq (st446 _ kq)
  have G448 : Go p e below A0 (T446.setTop (mkF m 100 #[.val (.ref d), .val (.ref a), .val (.int (1 : Int32)), .val (.int (2 : Int32)), .val (.int (3 : Int32))] [(.int (2 : Int32)), (.int (1 : Int32)), (.ref b223)])) := fun tq kq => G447 tq (by
    refine XS.iloadN X446.here hx rfl (hb hby d11_98) rfl ?_
    show Steps p.tables e below (T446.setTop (mkF m 99 #[.val (.ref d), .val (.ref a), .val (.int (1 : Int32)), .val (.int (2 : Int32)), .val (.int (3 : Int32))] [(.int (1 : Int32)), (.ref b223)])) _
    refine XS.iloadN X446.here hx rfl (hb hby d11_99) rfl ?_
    show Steps p.tables e below (T446.setTop (mkF m 100 #[.val (.ref d), .val (.ref a), .val (.int (1 : Int32)), .val (.int (2 : Int32)), .val (.int (3 : Int32))] [(.int (2 : Int32)), (.int (1 : Int32)), (.ref b223)])) _
    exact kq)
  have f450 := (Nat.le_trans (Nat.le_trans f423 E436.1) (Keep.of_wr W442).1)
  obtain ⟨T449, h449, k449, X449, e449, E449, A449, Ex449, st449⟩ := newPE X446 hx hZ (hw _ (List.mem_of_getElem? (i := 38) rfl)) e446 (g := (mkF m 100 #[.val (.ref d), .val (.ref a), .val (.int (1 : Int32)), .val (.int (2 : Int32)), .val (.int (3 : Int32))] [(.int (2 : Int32)), (.int (1 : Int32)), (.ref b223)])) rfl (hb hby d11_100) rfl (by decide) (cap := 2) (by decide) (by decide) (by decide) (by decide) (ad := "[I") (by decide)
  obtain ⟨b449, g449⟩ : ∃ z, z = h442.size := ⟨_, rfl⟩
  rw [← g449] at A449 st449 Ex449
  have f451 := (Nat.le_trans (Nat.le_trans f437 E436.1) (Keep.of_wr W442).1)
  have sz_b449 : h0.size ≤ b449 := Nat.le_trans f451 (Nat.le_of_eq g449.symm)
  have g_b449 : n0 ≤ b449 := Nat.le_trans f450 (Nat.le_of_eq g449.symm)
  have lt_d_b449 : d < b449 := Nat.lt_of_lt_of_le ((((((((((((((((f252.wr W254).ext E281).wr W287).ext E294).wr W301).wr W315).wr W329).wr W343).wr W357).wr W371).wr W385).wr W395).ext E402).wr W409).ext E436).wr W442).lt (Nat.le_of_eq g449.symm)
  have lt_a_b449 : a < b449 := Nat.lt_of_lt_of_le ((f419.ext E436).wr W442).lt (Nat.le_of_eq g449.symm)
  have lt_b_b449 : b < b449 := Nat.lt_of_lt_of_le ((f422.ext E436).other W442 (Nat.ne_of_lt lt_b_b210)).lt (Nat.le_of_eq g449.symm)
  have lt_x_b449 : x < b449 := Nat.lt_of_lt_of_le (((((((((((((((f270.ext E281).wr W287).ext E294).wr W301).wr W315).wr W329).wr W343).wr W357).wr W371).wr W385).wr W395).ext E402).wr W409).ext E436).wr W442).lt (Nat.le_of_eq g449.symm)
  have lt_cx_b449 : cx < b449 := Nat.lt_of_lt_of_le (((((((((((((((f275.ext E281).other W287 (Nat.ne_of_lt lt_cx_b210)).ext E294).other W301 (Nat.ne_of_lt lt_cx_b223)).other W315 (Nat.ne_of_lt lt_cx_b281)).other W329 (Nat.ne_of_lt lt_cx_b294)).other W343 (Nat.ne_of_lt lt_cx_b281)).other W357 (Nat.ne_of_lt lt_cx_b294)).other W371 (Nat.ne_of_lt lt_cx_b281)).other W385 (Nat.ne_of_lt lt_cx_b294)).other W395 (Nat.ne_of_lt lt_cx_b236)).ext E402).other W409 (Nat.ne_of_lt lt_cx_b249)).ext E436).other W442 (Nat.ne_of_lt lt_cx_b210)).lt (Nat.le_of_eq g449.symm)
  have lt_y_b449 : y < b449 := Nat.lt_of_lt_of_le ((f425.ext E436).wr W442).lt (Nat.le_of_eq g449.symm)
  have lt_cy_b449 : cy < b449 := Nat.lt_of_lt_of_le ((f430.ext E436).other W442 (Nat.ne_of_lt lt_cy_b210)).lt (Nat.le_of_eq g449.symm)
  have lt_b210_b449 : b210 < b449 := Nat.lt_of_lt_of_le V442'.lt (Nat.le_of_eq g449.symm)
  have lt_b223_b449 : b223 < b449 := Nat.lt_of_lt_of_le ((((((f378.other W385 (Nat.ne_of_lt lt_b223_b294)).other W395 (Nat.ne_of_lt lt_b223_b236)).ext E402).other W409 (Nat.ne_of_lt lt_b223_b249)).ext E436).other W442 (Ne.symm (Nat.ne_of_lt lt_b210_b223))).lt (Nat.le_of_eq g449.symm)
  have lt_b236_b449 : b236 < b449 := Nat.lt_of_lt_of_le ((((V395'.ext E402).other W409 (Nat.ne_of_lt lt_b236_b249)).ext E436).other W442 (Ne.symm (Nat.ne_of_lt lt_b210_b236))).lt (Nat.le_of_eq g449.symm)
  have lt_b249_b449 : b249 < b449 := Nat.lt_of_lt_of_le ((V409'.ext E436).other W442 (Ne.symm (Nat.ne_of_lt lt_b210_b249))).lt (Nat.le_of_eq g449.symm)
  have lt_b281_b449 : b281 < b449 := Nat.lt_of_lt_of_le ((((((V371'.other W385 (Nat.ne_of_lt lt_b281_b294)).other W395 (Ne.symm (Nat.ne_of_lt lt_b236_b281))).ext E402).other W409 (Ne.symm (Nat.ne_of_lt lt_b249_b281))).ext E436).other W442 (Ne.symm (Nat.ne_of_lt lt_b210_b281))).lt (Nat.le_of_eq g449.symm)
  have lt_b294_b449 : b294 < b449 := Nat.lt_of_lt_of_le (((((V385'.other W395 (Ne.symm (Nat.ne_of_lt lt_b236_b294))).ext E402).other W409 (Ne.symm (Nat.ne_of_lt lt_b249_b294))).ext E436).other W442 (Ne.symm (Nat.ne_of_lt lt_b210_b294))).lt (Nat.le_of_eq g449.symm)
  have lt_b402_b449 : b402 < b449 := Nat.lt_of_lt_of_le (((V402.other W409 (Ne.symm (Nat.ne_of_lt lt_b249_b402))).ext E436).other W442 (Ne.symm (Nat.ne_of_lt lt_b210_b402))).lt (Nat.le_of_eq g449.symm)
  have lt_b436_b449 : b436 < b449 := Nat.lt_of_lt_of_le (V436.other W442 (Ne.symm (Nat.ne_of_lt lt_b210_b436))).lt (Nat.le_of_eq g449.symm)
  have V449 : Arv Z h449 b449 k449 .int (2 : Int32) [(.int (0 : Int32)), (.int (0 : Int32))] (.int (0 : Int32)) := (Arv.new A449 (by decide)).pad (pad_rep [] (.int (0 : Int32)) 2)
  have G452 : Go p e below A0 (T449.setTop (mkF m 102 #[.val (.ref d), .val (.ref a), .val (.int (1 : Int32)), .val (.int (2 : Int32)), .val (.int (3 : Int32))] [(.ref b449), (.int (1 : Int32)), (.ref b223)])) := fun tq kq => G448 tq (st449 _ kq)
  have f453 := (((((((f378.other W385 (Nat.ne_of_lt lt_b223_b294)).other W395 (Nat.ne_of_lt lt_b223_b236)).ext E402).other W409 (Nat.ne_of_lt lt_b223_b249)).ext E436).other W442 (Ne.symm (Nat.ne_of_lt lt_b210_b223))).ext E449)
  obtain ⟨cl454, Ar454, q454, S454, M454, H454, Gf454⟩ := id f453
  have hi455 : ¬ ((1 : Int32) < 0 ∨ cl454.slots.size ≤ ((1 : Int32)).toNatClampNeg) := (inb_of S454 ⟨by decide, by decide⟩)
  obtain ⟨T456, h456, X456, e456, W456, st456⟩ := stR X449 hx hZ e449 Ar454 (j := (1 : Int32)) hi455 rfl (Sto.ofVA Ar454 q454 O223 (Ins.self Ex449)) (g := (mkF m 102 #[.val (.ref d), .val (.ref a), .val (.int (1 : Int32)), .val (.int (2 : Int32)), .val (.int (3 : Int32))] [(.ref b449), (.int (1 : Int32)), (.ref b223)])) rfl rfl (hb hby d11_102)
  have N456 := Fr.snoc X456 N442 g_b223
  have V456 := Arv.set Ar454 q454 S454 M454 H454 Gf454 rfl W456 1 rfl (Nat.le_of_ble_eq_true rfl)
  have V456' : Arv Z h456 b223 k223 (.array .int) (2 : Int32) [(.ref b294), (.ref b449)] .null := by exact V456
  have G457 : Go p e below A0 (T456.setTop (mkF m 103 #[.val (.ref d), .val (.ref a), .val (.int (1 : Int32)), .val (.int (2 : Int32)), .val (.int (3 : Int32))] [])) := fun tq kq => G452 tq (st456 _ kq)
  have G458 : Go p e below A0 (T456.setTop (mkF m 113 #[.val (.ref d), .val (.ref a), .val (.int (1 : Int32)), .val (.int (2 : Int32)), .val (.int (0 : Int32))] [(.ref d)])) := fun tq kq => G457 tq (by
    refine XS.iconst X456.here hx rfl (hb hby d11_103) ?_
    show Steps p.tables e below (T456.setTop (mkF m 104 #[.val (.ref d), .val (.ref a), .val (.int (1 : Int32)), .val (.int (2 : Int32)), .val (.int (3 : Int32))] [(.int (0 : Int32))])) _
    refine XS.istore X456.here hx rfl (hb hby d11_104) rfl (l' := #[.val (.ref d), .val (.ref a), .val (.int (1 : Int32)), .val (.int (2 : Int32)), .val (.int (0 : Int32))]) rfl ?_
    show Steps p.tables e below (T456.setTop (mkF m 106 #[.val (.ref d), .val (.ref a), .val (.int (1 : Int32)), .val (.int (2 : Int32)), .val (.int (0 : Int32))] [])) _
    refine XS.iload X456.here hx rfl (hb hby d11_106) rfl ?_
    show Steps p.tables e below (T456.setTop (mkF m 108 #[.val (.ref d), .val (.ref a), .val (.int (1 : Int32)), .val (.int (2 : Int32)), .val (.int (0 : Int32))] [(.int (0 : Int32))])) _
    refine XS.iloadN X456.here hx rfl (hb hby d11_108) rfl ?_
    show Steps p.tables e below (T456.setTop (mkF m 109 #[.val (.ref d), .val (.ref a), .val (.int (1 : Int32)), .val (.int (2 : Int32)), .val (.int (0 : Int32))] [(.int (2 : Int32)), (.int (0 : Int32))])) _
    refine XS.icmpNo X456.here hx rfl (hb hby d11_109) rfl (by decide) ?_
    show Steps p.tables e below (T456.setTop (mkF m 112 #[.val (.ref d), .val (.ref a), .val (.int (1 : Int32)), .val (.int (2 : Int32)), .val (.int (0 : Int32))] [])) _
    refine XS.aloadN X456.here hx rfl (hb hby d11_112) rfl rfl ?_
    show Steps p.tables e below (T456.setTop (mkF m 113 #[.val (.ref d), .val (.ref a), .val (.int (1 : Int32)), .val (.int (2 : Int32)), .val (.int (0 : Int32))] [(.ref d)])) _
    exact kq)
  have f459 := ((((f412.ext E436).other W442 (Or.inl (Nat.ne_of_lt lt_d_b210))).ext E449).other W456 (Or.inl (Nat.ne_of_lt lt_d_b223)))
  obtain ⟨T460, X460, e460, st460⟩ := getF X456 hx hZ hown (host := "") (Or.inl (hw _ (List.mem_of_getElem? (i := 105) rfl))) Via.refl e456 f459 (g := (mkF m 113 #[.val (.ref d), .val (.ref a), .val (.int (1 : Int32)), .val (.int (2 : Int32)), .val (.int (0 : Int32))] [(.ref d)])) rfl rfl (hb hby d11_113)
  have G461 : Go p e below A0 (T460.setTop (mkF m 116 #[.val (.ref d), .val (.ref a), .val (.int (1 : Int32)), .val (.int (2 : Int32)), .val (.int (0 : Int32))] [(.ref b210)])) := fun tq kq => G458 tq (st460 _ kq)
  have G462 : Go p e below A0 (T460.setTop (mkF m 117 #[.val (.ref d), .val (.ref a), .val (.int (1 : Int32)), .val (.int (2 : Int32)), .val (.int (0 : Int32))] [(.int (1 : Int32)), (.ref b210)])) := fun tq kq => G461 tq (by
    refine XS.iloadN X460.here hx rfl (hb hby d11_116) rfl ?_
    show Steps p.tables e below (T460.setTop (mkF m 117 #[.val (.ref d), .val (.ref a), .val (.int (1 : Int32)), .val (.int (2 : Int32)), .val (.int (0 : Int32))] [(.int (1 : Int32)), (.ref b210)])) _
    exact kq)
  have f463 := ((V442'.ext E449).other W456 (Nat.ne_of_lt lt_b210_b223))
  obtain ⟨cl464, Ar464, q464, S464, M464, H464, Gf464⟩ := id f463
  have hi465 : ¬ ((1 : Int32) < 0 ∨ cl464.slots.size ≤ ((1 : Int32)).toNatClampNeg) := (inb_of S464 ⟨by decide, by decide⟩)
  have G466 : Go p e below A0 (T460.setTop (mkF m 122 #[.val (.ref d), .val (.ref a), .val (.int (1 : Int32)), .val (.int (2 : Int32)), .val (.int (0 : Int32))] [(.int (0 : Int32)), (.int (0 : Int32)), (.ref b436)])) := fun tq kq => G462 tq (by
    refine X460.aaload hx (j := (1 : Int32)) (v := (.ref b436)) (by rw [e460]; exact Ar464.1) (State.isArrayOf_alike hZ.alike Ar464.2.1) rfl Ar464.2.2 hi465 (H464.at hi465 rfl) (g := (mkF m 117 #[.val (.ref d), .val (.ref a), .val (.int (1 : Int32)), .val (.int (2 : Int32)), .val (.int (0 : Int32))] [(.int (1 : Int32)), (.ref b210)])) rfl rfl (hb hby d11_117) _ ?_
    show Steps p.tables e below (T460.setTop (mkF m 118 #[.val (.ref d), .val (.ref a), .val (.int (1 : Int32)), .val (.int (2 : Int32)), .val (.int (0 : Int32))] [(.ref b436)])) _
    refine XS.iload X460.here hx rfl (hb hby d11_118) rfl ?_
    show Steps p.tables e below (T460.setTop (mkF m 120 #[.val (.ref d), .val (.ref a), .val (.int (1 : Int32)), .val (.int (2 : Int32)), .val (.int (0 : Int32))] [(.int (0 : Int32)), (.ref b436)])) _
    refine XS.iload X460.here hx rfl (hb hby d11_120) rfl ?_
    show Steps p.tables e below (T460.setTop (mkF m 122 #[.val (.ref d), .val (.ref a), .val (.int (1 : Int32)), .val (.int (2 : Int32)), .val (.int (0 : Int32))] [(.int (0 : Int32)), (.int (0 : Int32)), (.ref b436)])) _
    exact kq)
  have f467 := (((V436.other W442 (Ne.symm (Nat.ne_of_lt lt_b210_b436))).ext E449).other W456 (Ne.symm (Nat.ne_of_lt lt_b223_b436)))
  obtain ⟨cl468, Ar468, q468, S468, M468, H468, Gf468⟩ := id f467
  have hi469 : ¬ ((0 : Int32) < 0 ∨ cl468.slots.size ≤ ((0 : Int32)).toNatClampNeg) := (inb_of S468 ⟨by decide, by decide⟩)
  obtain ⟨T470, h470, X470, e470, W470, st470⟩ := stI X460 hx hZ e460 Ar468 (j := (0 : Int32)) hi469 (g := (mkF m 122 #[.val (.ref d), .val (.ref a), .val (.int (1 : Int32)), .val (.int (2 : Int32)), .val (.int (0 : Int32))] [(.int (0 : Int32)), (.int (0 : Int32)), (.ref b436)])) rfl rfl (hb hby d11_122)
  have N470 := Fr.snoc X470 N456 g_b436
  have V470 := Arv.set Ar468 q468 S468 M468 H468 Gf468 rfl W470 0 rfl (Nat.le_of_ble_eq_true rfl)
  have V470' : Arv Z h470 b436 k436 .int (2 : Int32) [(.int (0 : Int32)), (.int (0 : Int32))] (.int (0 : Int32)) := by exact V470
  have G471 : Go p e below A0 (T470.setTop (mkF m 123 #[.val (.ref d), .val (.ref a), .val (.int (1 : Int32)), .val (.int (2 : Int32)), .val (.int (0 : Int32))] [])) := fun tq kq => G466 tq (st470 _ kq)
  have G472 : Go p e below A0 (T470.setTop (mkF m 124 #[.val (.ref d), .val (.ref a), .val (.int (1 : Int32)), .val (.int (2 : Int32)), .val (.int (0 : Int32))] [(.ref d)])) := fun tq kq => G471 tq (by
    refine XS.aloadN X470.here hx rfl (hb hby d11_123) rfl rfl ?_
    show Steps p.tables e below (T470.setTop (mkF m 124 #[.val (.ref d), .val (.ref a), .val (.int (1 : Int32)), .val (.int (2 : Int32)), .val (.int (0 : Int32))] [(.ref d)])) _
    exact kq)
  have f473 := (((f445.ext E449).other W456 (Or.inl (Nat.ne_of_lt lt_d_b223))).other W470 (Or.inl (Nat.ne_of_lt lt_d_b436)))
  obtain ⟨T474, X474, e474, st474⟩ := getF X470 hx hZ hown (host := "") (Or.inl (hw _ (List.mem_of_getElem? (i := 107) rfl))) Via.refl e470 f473 (g := (mkF m 124 #[.val (.ref d), .val (.ref a), .val (.int (1 : Int32)), .val (.int (2 : Int32)), .val (.int (0 : Int32))] [(.ref d)])) rfl rfl (hb hby d11_124)
  have G475 : Go p e below A0 (T474.setTop (mkF m 127 #[.val (.ref d), .val (.ref a), .val (.int (1 : Int32)), .val (.int (2 : Int32)), .val (.int (0 : Int32))] [(.ref b223)])) := fun tq kq => G472 tq (st474 _ kq)
  have G476 : Go p e below A0 (T474.setTop (mkF m 128 #[.val (.ref d), .val (.ref a), .val (.int (1 : Int32)), .val (.int (2 : Int32)), .val (.int (0 : Int32))] [(.int (1 : Int32)), (.ref b223)])) := fun tq kq => G475 tq (by
    refine XS.iloadN X474.here hx rfl (hb hby d11_127) rfl ?_
    show Steps p.tables e below (T474.setTop (mkF m 128 #[.val (.ref d), .val (.ref a), .val (.int (1 : Int32)), .val (.int (2 : Int32)), .val (.int (0 : Int32))] [(.int (1 : Int32)), (.ref b223)])) _
    exact kq)
  have f477 := (V456'.other W470 (Nat.ne_of_lt lt_b223_b436))
  obtain ⟨cl478, Ar478, q478, S478, M478, H478, Gf478⟩ := id f477
  have hi479 : ¬ ((1 : Int32) < 0 ∨ cl478.slots.size ≤ ((1 : Int32)).toNatClampNeg) := (inb_of S478 ⟨by decide, by decide⟩)
  have G480 : Go p e below A0 (T474.setTop (mkF m 133 #[.val (.ref d), .val (.ref a), .val (.int (1 : Int32)), .val (.int (2 : Int32)), .val (.int (0 : Int32))] [(.int (0 : Int32)), (.int (0 : Int32)), (.ref b449)])) := fun tq kq => G476 tq (by
    refine X474.aaload hx (j := (1 : Int32)) (v := (.ref b449)) (by rw [e474]; exact Ar478.1) (State.isArrayOf_alike hZ.alike Ar478.2.1) rfl Ar478.2.2 hi479 (H478.at hi479 rfl) (g := (mkF m 128 #[.val (.ref d), .val (.ref a), .val (.int (1 : Int32)), .val (.int (2 : Int32)), .val (.int (0 : Int32))] [(.int (1 : Int32)), (.ref b223)])) rfl rfl (hb hby d11_128) _ ?_
    show Steps p.tables e below (T474.setTop (mkF m 129 #[.val (.ref d), .val (.ref a), .val (.int (1 : Int32)), .val (.int (2 : Int32)), .val (.int (0 : Int32))] [(.ref b449)])) _
    refine XS.iload X474.here hx rfl (hb hby d11_129) rfl ?_
    show Steps p.tables e below (T474.setTop (mkF m 131 #[.val (.ref d), .val (.ref a), .val (.int (1 : Int32)), .val (.int (2 : Int32)), .val (.int (0 : Int32))] [(.int (0 : Int32)), (.ref b449)])) _
    refine XS.iload X474.here hx rfl (hb hby d11_131) rfl ?_
    show Steps p.tables e below (T474.setTop (mkF m 133 #[.val (.ref d), .val (.ref a), .val (.int (1 : Int32)), .val (.int (2 : Int32)), .val (.int (0 : Int32))] [(.int (0 : Int32)), (.int (0 : Int32)), (.ref b449)])) _
    exact kq)
  have f481 := ((V449.other W456 (Ne.symm (Nat.ne_of_lt lt_b223_b449))).other W470 (Ne.symm (Nat.ne_of_lt lt_b436_b449)))
  obtain ⟨cl482, Ar482, q482, S482, M482, H482, Gf482⟩ := id f481
  have hi483 : ¬ ((0 : Int32) < 0 ∨ cl482.slots.size ≤ ((0 : Int32)).toNatClampNeg) := (inb_of S482 ⟨by decide, by decide⟩)
  obtain ⟨T484, h484, X484, e484, W484, st484⟩ := stI X474 hx hZ e474 Ar482 (j := (0 : Int32)) hi483 (g := (mkF m 133 #[.val (.ref d), .val (.ref a), .val (.int (1 : Int32)), .val (.int (2 : Int32)), .val (.int (0 : Int32))] [(.int (0 : Int32)), (.int (0 : Int32)), (.ref b449)])) rfl rfl (hb hby d11_133)
  have N484 := Fr.snoc X484 N470 g_b449
  have V484 := Arv.set Ar482 q482 S482 M482 H482 Gf482 rfl W484 0 rfl (Nat.le_of_ble_eq_true rfl)
  have V484' : Arv Z h484 b449 k449 .int (2 : Int32) [(.int (0 : Int32)), (.int (0 : Int32))] (.int (0 : Int32)) := by exact V484
  have G485 : Go p e below A0 (T484.setTop (mkF m 134 #[.val (.ref d), .val (.ref a), .val (.int (1 : Int32)), .val (.int (2 : Int32)), .val (.int (0 : Int32))] [])) := fun tq kq => G480 tq (st484 _ kq)
  have G486 : Go p e below A0 (T484.setTop (mkF m 113 #[.val (.ref d), .val (.ref a), .val (.int (1 : Int32)), .val (.int (2 : Int32)), .val (.int (1 : Int32))] [(.ref d)])) := fun tq kq => G485 tq (by
    refine XS.iinc X484.here hx rfl (hb hby d11_134) rfl (l' := #[.val (.ref d), .val (.ref a), .val (.int (1 : Int32)), .val (.int (2 : Int32)), .val (.int ((0 : Int32) + (1 : Int32)))]) rfl ?_
    show Steps p.tables e below (T484.setTop (mkF m 137 #[.val (.ref d), .val (.ref a), .val (.int (1 : Int32)), .val (.int (2 : Int32)), .val (.int ((0 : Int32) + (1 : Int32)))] [])) _
    rw [show ((0 : Int32) + (1 : Int32)) = (1 : Int32) from (by decide : ((0 : Int32) + (1 : Int32)) = (1 : Int32))]
    show Steps p.tables e below (T484.setTop (mkF m 137 #[.val (.ref d), .val (.ref a), .val (.int (1 : Int32)), .val (.int (2 : Int32)), .val (.int (1 : Int32))] [])) _
    refine XS.goto X484.here hx rfl (pc0 := 137) (pc' := 106) rfl (hb hby d11_137) (by decide) (by decide) ?_
    show Steps p.tables e below (T484.setTop (mkF m 106 #[.val (.ref d), .val (.ref a), .val (.int (1 : Int32)), .val (.int (2 : Int32)), .val (.int (1 : Int32))] [])) _
    refine XS.iload X484.here hx rfl (hb hby d11_106) rfl ?_
    show Steps p.tables e below (T484.setTop (mkF m 108 #[.val (.ref d), .val (.ref a), .val (.int (1 : Int32)), .val (.int (2 : Int32)), .val (.int (1 : Int32))] [(.int (1 : Int32))])) _
    refine XS.iloadN X484.here hx rfl (hb hby d11_108) rfl ?_
    show Steps p.tables e below (T484.setTop (mkF m 109 #[.val (.ref d), .val (.ref a), .val (.int (1 : Int32)), .val (.int (2 : Int32)), .val (.int (1 : Int32))] [(.int (2 : Int32)), (.int (1 : Int32))])) _
    refine XS.icmpNo X484.here hx rfl (hb hby d11_109) rfl (by decide) ?_
    show Steps p.tables e below (T484.setTop (mkF m 112 #[.val (.ref d), .val (.ref a), .val (.int (1 : Int32)), .val (.int (2 : Int32)), .val (.int (1 : Int32))] [])) _
    refine XS.aloadN X484.here hx rfl (hb hby d11_112) rfl rfl ?_
    show Steps p.tables e below (T484.setTop (mkF m 113 #[.val (.ref d), .val (.ref a), .val (.int (1 : Int32)), .val (.int (2 : Int32)), .val (.int (1 : Int32))] [(.ref d)])) _
    exact kq)
  have f487 := ((f459.other W470 (Or.inl (Nat.ne_of_lt lt_d_b436))).other W484 (Or.inl (Nat.ne_of_lt lt_d_b449)))
  obtain ⟨T488, X488, e488, st488⟩ := getF X484 hx hZ hown (host := "") (Or.inl (hw _ (List.mem_of_getElem? (i := 105) rfl))) Via.refl e484 f487 (g := (mkF m 113 #[.val (.ref d), .val (.ref a), .val (.int (1 : Int32)), .val (.int (2 : Int32)), .val (.int (1 : Int32))] [(.ref d)])) rfl rfl (hb hby d11_113)
  have G489 : Go p e below A0 (T488.setTop (mkF m 116 #[.val (.ref d), .val (.ref a), .val (.int (1 : Int32)), .val (.int (2 : Int32)), .val (.int (1 : Int32))] [(.ref b210)])) := fun tq kq => G486 tq (st488 _ kq)
  have G490 : Go p e below A0 (T488.setTop (mkF m 117 #[.val (.ref d), .val (.ref a), .val (.int (1 : Int32)), .val (.int (2 : Int32)), .val (.int (1 : Int32))] [(.int (1 : Int32)), (.ref b210)])) := fun tq kq => G489 tq (by
    refine XS.iloadN X488.here hx rfl (hb hby d11_116) rfl ?_
    show Steps p.tables e below (T488.setTop (mkF m 117 #[.val (.ref d), .val (.ref a), .val (.int (1 : Int32)), .val (.int (2 : Int32)), .val (.int (1 : Int32))] [(.int (1 : Int32)), (.ref b210)])) _
    exact kq)
  have f491 := ((f463.other W470 (Nat.ne_of_lt lt_b210_b436)).other W484 (Nat.ne_of_lt lt_b210_b449))
  obtain ⟨cl492, Ar492, q492, S492, M492, H492, Gf492⟩ := id f491
  have hi493 : ¬ ((1 : Int32) < 0 ∨ cl492.slots.size ≤ ((1 : Int32)).toNatClampNeg) := (inb_of S492 ⟨by decide, by decide⟩)
  have G494 : Go p e below A0 (T488.setTop (mkF m 122 #[.val (.ref d), .val (.ref a), .val (.int (1 : Int32)), .val (.int (2 : Int32)), .val (.int (1 : Int32))] [(.int (1 : Int32)), (.int (1 : Int32)), (.ref b436)])) := fun tq kq => G490 tq (by
    refine X488.aaload hx (j := (1 : Int32)) (v := (.ref b436)) (by rw [e488]; exact Ar492.1) (State.isArrayOf_alike hZ.alike Ar492.2.1) rfl Ar492.2.2 hi493 (H492.at hi493 rfl) (g := (mkF m 117 #[.val (.ref d), .val (.ref a), .val (.int (1 : Int32)), .val (.int (2 : Int32)), .val (.int (1 : Int32))] [(.int (1 : Int32)), (.ref b210)])) rfl rfl (hb hby d11_117) _ ?_
    show Steps p.tables e below (T488.setTop (mkF m 118 #[.val (.ref d), .val (.ref a), .val (.int (1 : Int32)), .val (.int (2 : Int32)), .val (.int (1 : Int32))] [(.ref b436)])) _
    refine XS.iload X488.here hx rfl (hb hby d11_118) rfl ?_
    show Steps p.tables e below (T488.setTop (mkF m 120 #[.val (.ref d), .val (.ref a), .val (.int (1 : Int32)), .val (.int (2 : Int32)), .val (.int (1 : Int32))] [(.int (1 : Int32)), (.ref b436)])) _
    refine XS.iload X488.here hx rfl (hb hby d11_120) rfl ?_
    show Steps p.tables e below (T488.setTop (mkF m 122 #[.val (.ref d), .val (.ref a), .val (.int (1 : Int32)), .val (.int (2 : Int32)), .val (.int (1 : Int32))] [(.int (1 : Int32)), (.int (1 : Int32)), (.ref b436)])) _
    exact kq)
  have f495 := (V470'.other W484 (Nat.ne_of_lt lt_b436_b449))
  obtain ⟨cl496, Ar496, q496, S496, M496, H496, Gf496⟩ := id f495
  have hi497 : ¬ ((1 : Int32) < 0 ∨ cl496.slots.size ≤ ((1 : Int32)).toNatClampNeg) := (inb_of S496 ⟨by decide, by decide⟩)
  obtain ⟨T498, h498, X498, e498, W498, st498⟩ := stI X488 hx hZ e488 Ar496 (j := (1 : Int32)) hi497 (g := (mkF m 122 #[.val (.ref d), .val (.ref a), .val (.int (1 : Int32)), .val (.int (2 : Int32)), .val (.int (1 : Int32))] [(.int (1 : Int32)), (.int (1 : Int32)), (.ref b436)])) rfl rfl (hb hby d11_122)
  have N498 := Fr.snoc X498 N484 g_b436
  have V498 := Arv.set Ar496 q496 S496 M496 H496 Gf496 rfl W498 1 rfl (Nat.le_of_ble_eq_true rfl)
  have V498' : Arv Z h498 b436 k436 .int (2 : Int32) [(.int (0 : Int32)), (.int (1 : Int32))] (.int (0 : Int32)) := by exact V498
  have G499 : Go p e below A0 (T498.setTop (mkF m 123 #[.val (.ref d), .val (.ref a), .val (.int (1 : Int32)), .val (.int (2 : Int32)), .val (.int (1 : Int32))] [])) := fun tq kq => G494 tq (st498 _ kq)
  have G500 : Go p e below A0 (T498.setTop (mkF m 124 #[.val (.ref d), .val (.ref a), .val (.int (1 : Int32)), .val (.int (2 : Int32)), .val (.int (1 : Int32))] [(.ref d)])) := fun tq kq => G499 tq (by
    refine XS.aloadN X498.here hx rfl (hb hby d11_123) rfl rfl ?_
    show Steps p.tables e below (T498.setTop (mkF m 124 #[.val (.ref d), .val (.ref a), .val (.int (1 : Int32)), .val (.int (2 : Int32)), .val (.int (1 : Int32))] [(.ref d)])) _
    exact kq)
  have f501 := ((f473.other W484 (Or.inl (Nat.ne_of_lt lt_d_b449))).other W498 (Or.inl (Nat.ne_of_lt lt_d_b436)))
  obtain ⟨T502, X502, e502, st502⟩ := getF X498 hx hZ hown (host := "") (Or.inl (hw _ (List.mem_of_getElem? (i := 107) rfl))) Via.refl e498 f501 (g := (mkF m 124 #[.val (.ref d), .val (.ref a), .val (.int (1 : Int32)), .val (.int (2 : Int32)), .val (.int (1 : Int32))] [(.ref d)])) rfl rfl (hb hby d11_124)
  have G503 : Go p e below A0 (T502.setTop (mkF m 127 #[.val (.ref d), .val (.ref a), .val (.int (1 : Int32)), .val (.int (2 : Int32)), .val (.int (1 : Int32))] [(.ref b223)])) := fun tq kq => G500 tq (st502 _ kq)
  have G504 : Go p e below A0 (T502.setTop (mkF m 128 #[.val (.ref d), .val (.ref a), .val (.int (1 : Int32)), .val (.int (2 : Int32)), .val (.int (1 : Int32))] [(.int (1 : Int32)), (.ref b223)])) := fun tq kq => G503 tq (by
    refine XS.iloadN X502.here hx rfl (hb hby d11_127) rfl ?_
    show Steps p.tables e below (T502.setTop (mkF m 128 #[.val (.ref d), .val (.ref a), .val (.int (1 : Int32)), .val (.int (2 : Int32)), .val (.int (1 : Int32))] [(.int (1 : Int32)), (.ref b223)])) _
    exact kq)
  have f505 := ((f477.other W484 (Nat.ne_of_lt lt_b223_b449)).other W498 (Nat.ne_of_lt lt_b223_b436))
  obtain ⟨cl506, Ar506, q506, S506, M506, H506, Gf506⟩ := id f505
  have hi507 : ¬ ((1 : Int32) < 0 ∨ cl506.slots.size ≤ ((1 : Int32)).toNatClampNeg) := (inb_of S506 ⟨by decide, by decide⟩)
  have G508 : Go p e below A0 (T502.setTop (mkF m 133 #[.val (.ref d), .val (.ref a), .val (.int (1 : Int32)), .val (.int (2 : Int32)), .val (.int (1 : Int32))] [(.int (1 : Int32)), (.int (1 : Int32)), (.ref b449)])) := fun tq kq => G504 tq (by
    refine X502.aaload hx (j := (1 : Int32)) (v := (.ref b449)) (by rw [e502]; exact Ar506.1) (State.isArrayOf_alike hZ.alike Ar506.2.1) rfl Ar506.2.2 hi507 (H506.at hi507 rfl) (g := (mkF m 128 #[.val (.ref d), .val (.ref a), .val (.int (1 : Int32)), .val (.int (2 : Int32)), .val (.int (1 : Int32))] [(.int (1 : Int32)), (.ref b223)])) rfl rfl (hb hby d11_128) _ ?_
    show Steps p.tables e below (T502.setTop (mkF m 129 #[.val (.ref d), .val (.ref a), .val (.int (1 : Int32)), .val (.int (2 : Int32)), .val (.int (1 : Int32))] [(.ref b449)])) _
    refine XS.iload X502.here hx rfl (hb hby d11_129) rfl ?_
    show Steps p.tables e below (T502.setTop (mkF m 131 #[.val (.ref d), .val (.ref a), .val (.int (1 : Int32)), .val (.int (2 : Int32)), .val (.int (1 : Int32))] [(.int (1 : Int32)), (.ref b449)])) _
    refine XS.iload X502.here hx rfl (hb hby d11_131) rfl ?_
    show Steps p.tables e below (T502.setTop (mkF m 133 #[.val (.ref d), .val (.ref a), .val (.int (1 : Int32)), .val (.int (2 : Int32)), .val (.int (1 : Int32))] [(.int (1 : Int32)), (.int (1 : Int32)), (.ref b449)])) _
    exact kq)
  have f509 := (V484'.other W498 (Ne.symm (Nat.ne_of_lt lt_b436_b449)))
  obtain ⟨cl510, Ar510, q510, S510, M510, H510, Gf510⟩ := id f509
  have hi511 : ¬ ((1 : Int32) < 0 ∨ cl510.slots.size ≤ ((1 : Int32)).toNatClampNeg) := (inb_of S510 ⟨by decide, by decide⟩)
  obtain ⟨T512, h512, X512, e512, W512, st512⟩ := stI X502 hx hZ e502 Ar510 (j := (1 : Int32)) hi511 (g := (mkF m 133 #[.val (.ref d), .val (.ref a), .val (.int (1 : Int32)), .val (.int (2 : Int32)), .val (.int (1 : Int32))] [(.int (1 : Int32)), (.int (1 : Int32)), (.ref b449)])) rfl rfl (hb hby d11_133)
  have N512 := Fr.snoc X512 N498 g_b449
  have V512 := Arv.set Ar510 q510 S510 M510 H510 Gf510 rfl W512 1 rfl (Nat.le_of_ble_eq_true rfl)
  have V512' : Arv Z h512 b449 k449 .int (2 : Int32) [(.int (0 : Int32)), (.int (1 : Int32))] (.int (0 : Int32)) := by exact V512
  have G513 : Go p e below A0 (T512.setTop (mkF m 134 #[.val (.ref d), .val (.ref a), .val (.int (1 : Int32)), .val (.int (2 : Int32)), .val (.int (1 : Int32))] [])) := fun tq kq => G508 tq (st512 _ kq)
  have G514 : Go p e below A0 (T512.setTop (mkF m 141 #[.val (.ref d), .val (.ref a), .val (.int (1 : Int32)), .val (.int (2 : Int32)), .val (.int (2 : Int32))] [(.ref d)])) := fun tq kq => G513 tq (by
    refine XS.iinc X512.here hx rfl (hb hby d11_134) rfl (l' := #[.val (.ref d), .val (.ref a), .val (.int (1 : Int32)), .val (.int (2 : Int32)), .val (.int ((1 : Int32) + (1 : Int32)))]) rfl ?_
    show Steps p.tables e below (T512.setTop (mkF m 137 #[.val (.ref d), .val (.ref a), .val (.int (1 : Int32)), .val (.int (2 : Int32)), .val (.int ((1 : Int32) + (1 : Int32)))] [])) _
    rw [show ((1 : Int32) + (1 : Int32)) = (2 : Int32) from (by decide : ((1 : Int32) + (1 : Int32)) = (2 : Int32))]
    show Steps p.tables e below (T512.setTop (mkF m 137 #[.val (.ref d), .val (.ref a), .val (.int (1 : Int32)), .val (.int (2 : Int32)), .val (.int (2 : Int32))] [])) _
    refine XS.goto X512.here hx rfl (pc0 := 137) (pc' := 106) rfl (hb hby d11_137) (by decide) (by decide) ?_
    show Steps p.tables e below (T512.setTop (mkF m 106 #[.val (.ref d), .val (.ref a), .val (.int (1 : Int32)), .val (.int (2 : Int32)), .val (.int (2 : Int32))] [])) _
    refine XS.iload X512.here hx rfl (hb hby d11_106) rfl ?_
    show Steps p.tables e below (T512.setTop (mkF m 108 #[.val (.ref d), .val (.ref a), .val (.int (1 : Int32)), .val (.int (2 : Int32)), .val (.int (2 : Int32))] [(.int (2 : Int32))])) _
    refine XS.iloadN X512.here hx rfl (hb hby d11_108) rfl ?_
    show Steps p.tables e below (T512.setTop (mkF m 109 #[.val (.ref d), .val (.ref a), .val (.int (1 : Int32)), .val (.int (2 : Int32)), .val (.int (2 : Int32))] [(.int (2 : Int32)), (.int (2 : Int32))])) _
    refine XS.icmpYes X512.here hx rfl (pc0 := 109) (pc' := 140) rfl (hb hby d11_109) rfl (by decide) (by decide) (by decide) ?_
    show Steps p.tables e below (T512.setTop (mkF m 140 #[.val (.ref d), .val (.ref a), .val (.int (1 : Int32)), .val (.int (2 : Int32)), .val (.int (2 : Int32))] [])) _
    refine XS.aloadN X512.here hx rfl (hb hby d11_140) rfl rfl ?_
    show Steps p.tables e below (T512.setTop (mkF m 141 #[.val (.ref d), .val (.ref a), .val (.int (1 : Int32)), .val (.int (2 : Int32)), .val (.int (2 : Int32))] [(.ref d)])) _
    exact kq)
  have f515 := (((((((((((f388.other W395 (Or.inl (Nat.ne_of_lt lt_d_b236))).ext E402).other W409 (Or.inl (Nat.ne_of_lt lt_d_b249))).ext E436).other W442 (Or.inl (Nat.ne_of_lt lt_d_b210))).ext E449).other W456 (Or.inl (Nat.ne_of_lt lt_d_b223))).other W470 (Or.inl (Nat.ne_of_lt lt_d_b436))).other W484 (Or.inl (Nat.ne_of_lt lt_d_b449))).other W498 (Or.inl (Nat.ne_of_lt lt_d_b436))).other W512 (Or.inl (Nat.ne_of_lt lt_d_b449)))
  obtain ⟨T516, X516, e516, st516⟩ := getF X512 hx hZ hown (host := "") (Or.inl (hw _ (List.mem_of_getElem? (i := 109) rfl))) Via.refl e512 f515 (g := (mkF m 141 #[.val (.ref d), .val (.ref a), .val (.int (1 : Int32)), .val (.int (2 : Int32)), .val (.int (2 : Int32))] [(.ref d)])) rfl rfl (hb hby d11_141)
  have G517 : Go p e below A0 (T516.setTop (mkF m 144 #[.val (.ref d), .val (.ref a), .val (.int (1 : Int32)), .val (.int (2 : Int32)), .val (.int (2 : Int32))] [(.ref b236)])) := fun tq kq => G514 tq (st516 _ kq)
  have G518 : Go p e below A0 (T516.setTop (mkF m 146 #[.val (.ref d), .val (.ref a), .val (.int (1 : Int32)), .val (.int (2 : Int32)), .val (.int (2 : Int32))] [(.int (2 : Int32)), (.int (1 : Int32)), (.ref b236)])) := fun tq kq => G517 tq (by
    refine XS.iloadN X516.here hx rfl (hb hby d11_144) rfl ?_
    show Steps p.tables e below (T516.setTop (mkF m 145 #[.val (.ref d), .val (.ref a), .val (.int (1 : Int32)), .val (.int (2 : Int32)), .val (.int (2 : Int32))] [(.int (1 : Int32)), (.ref b236)])) _
    refine XS.iloadN X516.here hx rfl (hb hby d11_145) rfl ?_
    show Steps p.tables e below (T516.setTop (mkF m 146 #[.val (.ref d), .val (.ref a), .val (.int (1 : Int32)), .val (.int (2 : Int32)), .val (.int (2 : Int32))] [(.int (2 : Int32)), (.int (1 : Int32)), (.ref b236)])) _
    exact kq)
  have f519 := ((((((((((V395'.ext E402).other W409 (Nat.ne_of_lt lt_b236_b249)).ext E436).other W442 (Ne.symm (Nat.ne_of_lt lt_b210_b236))).ext E449).other W456 (Ne.symm (Nat.ne_of_lt lt_b223_b236))).other W470 (Nat.ne_of_lt lt_b236_b436)).other W484 (Nat.ne_of_lt lt_b236_b449)).other W498 (Nat.ne_of_lt lt_b236_b436)).other W512 (Nat.ne_of_lt lt_b236_b449))
  obtain ⟨cl520, Ar520, q520, S520, M520, H520, Gf520⟩ := id f519
  have hi521 : ¬ ((1 : Int32) < 0 ∨ cl520.slots.size ≤ ((1 : Int32)).toNatClampNeg) := (inb_of S520 ⟨by decide, by decide⟩)
  obtain ⟨T522, h522, X522, e522, W522, st522⟩ := stI X516 hx hZ e516 Ar520 (j := (1 : Int32)) hi521 (g := (mkF m 146 #[.val (.ref d), .val (.ref a), .val (.int (1 : Int32)), .val (.int (2 : Int32)), .val (.int (2 : Int32))] [(.int (2 : Int32)), (.int (1 : Int32)), (.ref b236)])) rfl rfl (hb hby d11_146)
  have N522 := Fr.snoc X522 N512 g_b236
  have V522 := Arv.set Ar520 q520 S520 M520 H520 Gf520 rfl W522 1 rfl (Nat.le_of_ble_eq_true rfl)
  have V522' : Arv Z h522 b236 k236 .int (2 : Int32) [(.int (3 : Int32)), (.int (2 : Int32))] (.int (0 : Int32)) := by exact V522
  have G523 : Go p e below A0 (T522.setTop (mkF m 147 #[.val (.ref d), .val (.ref a), .val (.int (1 : Int32)), .val (.int (2 : Int32)), .val (.int (2 : Int32))] [])) := fun tq kq => G518 tq (st522 _ kq)
  have G524 : Go p e below A0 (T522.setTop (mkF m 148 #[.val (.ref d), .val (.ref a), .val (.int (1 : Int32)), .val (.int (2 : Int32)), .val (.int (2 : Int32))] [(.ref d)])) := fun tq kq => G523 tq (by
    refine XS.aloadN X522.here hx rfl (hb hby d11_147) rfl rfl ?_
    show Steps p.tables e below (T522.setTop (mkF m 148 #[.val (.ref d), .val (.ref a), .val (.int (1 : Int32)), .val (.int (2 : Int32)), .val (.int (2 : Int32))] [(.ref d)])) _
    exact kq)
  have f525 := (((((((((((f398.ext E402).other W409 (Or.inl (Nat.ne_of_lt lt_d_b249))).ext E436).other W442 (Or.inl (Nat.ne_of_lt lt_d_b210))).ext E449).other W456 (Or.inl (Nat.ne_of_lt lt_d_b223))).other W470 (Or.inl (Nat.ne_of_lt lt_d_b436))).other W484 (Or.inl (Nat.ne_of_lt lt_d_b449))).other W498 (Or.inl (Nat.ne_of_lt lt_d_b436))).other W512 (Or.inl (Nat.ne_of_lt lt_d_b449))).other W522 (Or.inl (Nat.ne_of_lt lt_d_b236)))
  obtain ⟨T526, X526, e526, st526⟩ := getF X522 hx hZ hown (host := "") (Or.inl (hw _ (List.mem_of_getElem? (i := 111) rfl))) Via.refl e522 f525 (g := (mkF m 148 #[.val (.ref d), .val (.ref a), .val (.int (1 : Int32)), .val (.int (2 : Int32)), .val (.int (2 : Int32))] [(.ref d)])) rfl rfl (hb hby d11_148)
  have G527 : Go p e below A0 (T526.setTop (mkF m 151 #[.val (.ref d), .val (.ref a), .val (.int (1 : Int32)), .val (.int (2 : Int32)), .val (.int (2 : Int32))] [(.ref b249)])) := fun tq kq => G524 tq (st526 _ kq)
  have G528 : Go p e below A0 (T526.setTop (mkF m 153 #[.val (.ref d), .val (.ref a), .val (.int (1 : Int32)), .val (.int (2 : Int32)), .val (.int (2 : Int32))] [(.int (2 : Int32)), (.int (1 : Int32)), (.ref b249)])) := fun tq kq => G527 tq (by
    refine XS.iloadN X526.here hx rfl (hb hby d11_151) rfl ?_
    show Steps p.tables e below (T526.setTop (mkF m 152 #[.val (.ref d), .val (.ref a), .val (.int (1 : Int32)), .val (.int (2 : Int32)), .val (.int (2 : Int32))] [(.int (1 : Int32)), (.ref b249)])) _
    refine XS.iloadN X526.here hx rfl (hb hby d11_152) rfl ?_
    show Steps p.tables e below (T526.setTop (mkF m 153 #[.val (.ref d), .val (.ref a), .val (.int (1 : Int32)), .val (.int (2 : Int32)), .val (.int (2 : Int32))] [(.int (2 : Int32)), (.int (1 : Int32)), (.ref b249)])) _
    exact kq)
  have f530 := (Nat.le_trans (Nat.le_trans (Nat.le_trans (Nat.le_trans (Nat.le_trans (Nat.le_trans (Nat.le_trans f450 E449.1) (Keep.of_wr W456).1) (Keep.of_wr W470).1) (Keep.of_wr W484).1) (Keep.of_wr W498).1) (Keep.of_wr W512).1) (Keep.of_wr W522).1)
  obtain ⟨T529, h529, k529, X529, e529, E529, A529, Ex529, st529⟩ := newPE X526 hx hZ (hw _ (List.mem_of_getElem? (i := 38) rfl)) e526 (g := (mkF m 153 #[.val (.ref d), .val (.ref a), .val (.int (1 : Int32)), .val (.int (2 : Int32)), .val (.int (2 : Int32))] [(.int (2 : Int32)), (.int (1 : Int32)), (.ref b249)])) rfl (hb hby d11_153) rfl (by decide) (cap := 2) (by decide) (by decide) (by decide) (by decide) (ad := "[I") (by decide)
  obtain ⟨b529, g529⟩ : ∃ z, z = h522.size := ⟨_, rfl⟩
  rw [← g529] at A529 st529 Ex529
  have f531 := (Nat.le_trans (Nat.le_trans (Nat.le_trans (Nat.le_trans (Nat.le_trans (Nat.le_trans (Nat.le_trans f451 E449.1) (Keep.of_wr W456).1) (Keep.of_wr W470).1) (Keep.of_wr W484).1) (Keep.of_wr W498).1) (Keep.of_wr W512).1) (Keep.of_wr W522).1)
  have sz_b529 : h0.size ≤ b529 := Nat.le_trans f531 (Nat.le_of_eq g529.symm)
  have g_b529 : n0 ≤ b529 := Nat.le_trans f530 (Nat.le_of_eq g529.symm)
  have lt_d_b529 : d < b529 := Nat.lt_of_lt_of_le (((((((((((((((((((((((f252.wr W254).ext E281).wr W287).ext E294).wr W301).wr W315).wr W329).wr W343).wr W357).wr W371).wr W385).wr W395).ext E402).wr W409).ext E436).wr W442).ext E449).wr W456).wr W470).wr W484).wr W498).wr W512).wr W522).lt (Nat.le_of_eq g529.symm)
  have lt_a_b529 : a < b529 := Nat.lt_of_lt_of_le (((((((((f419.ext E436).wr W442).ext E449).wr W456).wr W470).wr W484).wr W498).wr W512).wr W522).lt (Nat.le_of_eq g529.symm)
  have lt_b_b529 : b < b529 := Nat.lt_of_lt_of_le (((((((((f422.ext E436).other W442 (Nat.ne_of_lt lt_b_b210)).ext E449).other W456 (Nat.ne_of_lt lt_b_b223)).other W470 (Nat.ne_of_lt lt_b_b436)).other W484 (Nat.ne_of_lt lt_b_b449)).other W498 (Nat.ne_of_lt lt_b_b436)).other W512 (Nat.ne_of_lt lt_b_b449)).other W522 (Nat.ne_of_lt lt_b_b236)).lt (Nat.le_of_eq g529.symm)
  have lt_x_b529 : x < b529 := Nat.lt_of_lt_of_le ((((((((((((((((((((((f270.ext E281).wr W287).ext E294).wr W301).wr W315).wr W329).wr W343).wr W357).wr W371).wr W385).wr W395).ext E402).wr W409).ext E436).wr W442).ext E449).wr W456).wr W470).wr W484).wr W498).wr W512).wr W522).lt (Nat.le_of_eq g529.symm)
  have lt_cx_b529 : cx < b529 := Nat.lt_of_lt_of_le ((((((((((((((((((((((f275.ext E281).other W287 (Nat.ne_of_lt lt_cx_b210)).ext E294).other W301 (Nat.ne_of_lt lt_cx_b223)).other W315 (Nat.ne_of_lt lt_cx_b281)).other W329 (Nat.ne_of_lt lt_cx_b294)).other W343 (Nat.ne_of_lt lt_cx_b281)).other W357 (Nat.ne_of_lt lt_cx_b294)).other W371 (Nat.ne_of_lt lt_cx_b281)).other W385 (Nat.ne_of_lt lt_cx_b294)).other W395 (Nat.ne_of_lt lt_cx_b236)).ext E402).other W409 (Nat.ne_of_lt lt_cx_b249)).ext E436).other W442 (Nat.ne_of_lt lt_cx_b210)).ext E449).other W456 (Nat.ne_of_lt lt_cx_b223)).other W470 (Nat.ne_of_lt lt_cx_b436)).other W484 (Nat.ne_of_lt lt_cx_b449)).other W498 (Nat.ne_of_lt lt_cx_b436)).other W512 (Nat.ne_of_lt lt_cx_b449)).other W522 (Nat.ne_of_lt lt_cx_b236)).lt (Nat.le_of_eq g529.symm)
  have lt_y_b529 : y < b529 := Nat.lt_of_lt_of_le (((((((((f425.ext E436).wr W442).ext E449).wr W456).wr W470).wr W484).wr W498).wr W512).wr W522).lt (Nat.le_of_eq g529.symm)
  have lt_cy_b529 : cy < b529 := Nat.lt_of_lt_of_le (((((((((f430.ext E436).other W442 (Nat.ne_of_lt lt_cy_b210)).ext E449).other W456 (Nat.ne_of_lt lt_cy_b223)).other W470 (Nat.ne_of_lt lt_cy_b436)).other W484 (Nat.ne_of_lt lt_cy_b449)).other W498 (Nat.ne_of_lt lt_cy_b436)).other W512 (Nat.ne_of_lt lt_cy_b449)).other W522 (Nat.ne_of_lt lt_cy_b236)).lt (Nat.le_of_eq g529.symm)
  have lt_b210_b529 : b210 < b529 := Nat.lt_of_lt_of_le (((f491.other W498 (Nat.ne_of_lt lt_b210_b436)).other W512 (Nat.ne_of_lt lt_b210_b449)).other W522 (Nat.ne_of_lt lt_b210_b236)).lt (Nat.le_of_eq g529.symm)
  have lt_b223_b529 : b223 < b529 := Nat.lt_of_lt_of_le ((f505.other W512 (Nat.ne_of_lt lt_b223_b449)).other W522 (Nat.ne_of_lt lt_b223_b236)).lt (Nat.le_of_eq g529.symm)
  have lt_b236_b529 : b236 < b529 := Nat.lt_of_lt_of_le V522'.lt (Nat.le_of_eq g529.symm)
  have lt_b249_b529 : b249 < b529 := Nat.lt_of_lt_of_le (((((((((V409'.ext E436).other W442 (Ne.symm (Nat.ne_of_lt lt_b210_b249))).ext E449).other W456 (Ne.symm (Nat.ne_of_lt lt_b223_b249))).other W470 (Nat.ne_of_lt lt_b249_b436)).other W484 (Nat.ne_of_lt lt_b249_b449)).other W498 (Nat.ne_of_lt lt_b249_b436)).other W512 (Nat.ne_of_lt lt_b249_b449)).other W522 (Ne.symm (Nat.ne_of_lt lt_b236_b249))).lt (Nat.le_of_eq g529.symm)
  have lt_b281_b529 : b281 < b529 := Nat.lt_of_lt_of_le (((((((((((((V371'.other W385 (Nat.ne_of_lt lt_b281_b294)).other W395 (Ne.symm (Nat.ne_of_lt lt_b236_b281))).ext E402).other W409 (Ne.symm (Nat.ne_of_lt lt_b249_b281))).ext E436).other W442 (Ne.symm (Nat.ne_of_lt lt_b210_b281))).ext E449).other W456 (Ne.symm (Nat.ne_of_lt lt_b223_b281))).other W470 (Nat.ne_of_lt lt_b281_b436)).other W484 (Nat.ne_of_lt lt_b281_b449)).other W498 (Nat.ne_of_lt lt_b281_b436)).other W512 (Nat.ne_of_lt lt_b281_b449)).other W522 (Ne.symm (Nat.ne_of_lt lt_b236_b281))).lt (Nat.le_of_eq g529.symm)
  have lt_b294_b529 : b294 < b529 := Nat.lt_of_lt_of_le ((((((((((((V385'.other W395 (Ne.symm (Nat.ne_of_lt lt_b236_b294))).ext E402).other W409 (Ne.symm (Nat.ne_of_lt lt_b249_b294))).ext E436).other W442 (Ne.symm (Nat.ne_of_lt lt_b210_b294))).ext E449).other W456 (Ne.symm (Nat.ne_of_lt lt_b223_b294))).other W470 (Nat.ne_of_lt lt_b294_b436)).other W484 (Nat.ne_of_lt lt_b294_b449)).other W498 (Nat.ne_of_lt lt_b294_b436)).other W512 (Nat.ne_of_lt lt_b294_b449)).other W522 (Ne.symm (Nat.ne_of_lt lt_b236_b294))).lt (Nat.le_of_eq g529.symm)
  have lt_b402_b529 : b402 < b529 := Nat.lt_of_lt_of_le ((((((((((V402.other W409 (Ne.symm (Nat.ne_of_lt lt_b249_b402))).ext E436).other W442 (Ne.symm (Nat.ne_of_lt lt_b210_b402))).ext E449).other W456 (Ne.symm (Nat.ne_of_lt lt_b223_b402))).other W470 (Nat.ne_of_lt lt_b402_b436)).other W484 (Nat.ne_of_lt lt_b402_b449)).other W498 (Nat.ne_of_lt lt_b402_b436)).other W512 (Nat.ne_of_lt lt_b402_b449)).other W522 (Ne.symm (Nat.ne_of_lt lt_b236_b402))).lt (Nat.le_of_eq g529.symm)
  have lt_b436_b529 : b436 < b529 := Nat.lt_of_lt_of_le ((V498'.other W512 (Nat.ne_of_lt lt_b436_b449)).other W522 (Ne.symm (Nat.ne_of_lt lt_b236_b436))).lt (Nat.le_of_eq g529.symm)
  have lt_b449_b529 : b449 < b529 := Nat.lt_of_lt_of_le (V512'.other W522 (Ne.symm (Nat.ne_of_lt lt_b236_b449))).lt (Nat.le_of_eq g529.symm)
  have V529 : Arv Z h529 b529 k529 .int (2 : Int32) [(.int (0 : Int32)), (.int (0 : Int32))] (.int (0 : Int32)) := (Arv.new A529 (by decide)).pad (pad_rep [] (.int (0 : Int32)) 2)
  have G532 : Go p e below A0 (T529.setTop (mkF m 155 #[.val (.ref d), .val (.ref a), .val (.int (1 : Int32)), .val (.int (2 : Int32)), .val (.int (2 : Int32))] [(.ref b529), (.int (1 : Int32)), (.ref b249)])) := fun tq kq => G528 tq (st529 _ kq)
  have f533 := ((((((((((V409'.ext E436).other W442 (Ne.symm (Nat.ne_of_lt lt_b210_b249))).ext E449).other W456 (Ne.symm (Nat.ne_of_lt lt_b223_b249))).other W470 (Nat.ne_of_lt lt_b249_b436)).other W484 (Nat.ne_of_lt lt_b249_b449)).other W498 (Nat.ne_of_lt lt_b249_b436)).other W512 (Nat.ne_of_lt lt_b249_b449)).other W522 (Ne.symm (Nat.ne_of_lt lt_b236_b249))).ext E529)
  obtain ⟨cl534, Ar534, q534, S534, M534, H534, Gf534⟩ := id f533
  have hi535 : ¬ ((1 : Int32) < 0 ∨ cl534.slots.size ≤ ((1 : Int32)).toNatClampNeg) := (inb_of S534 ⟨by decide, by decide⟩)
  obtain ⟨T536, h536, X536, e536, W536, st536⟩ := stR X529 hx hZ e529 Ar534 (j := (1 : Int32)) hi535 rfl (Sto.ofVA Ar534 q534 O249 (Ins.self Ex529)) (g := (mkF m 155 #[.val (.ref d), .val (.ref a), .val (.int (1 : Int32)), .val (.int (2 : Int32)), .val (.int (2 : Int32))] [(.ref b529), (.int (1 : Int32)), (.ref b249)])) rfl rfl (hb hby d11_155)
  have N536 := Fr.snoc X536 N522 g_b249
  have V536 := Arv.set Ar534 q534 S534 M534 H534 Gf534 rfl W536 1 rfl (Nat.le_of_ble_eq_true rfl)
  have V536' : Arv Z h536 b249 k249 (.array .int) (2 : Int32) [(.ref b402), (.ref b529)] .null := by exact V536
  have G537 : Go p e below A0 (T536.setTop (mkF m 156 #[.val (.ref d), .val (.ref a), .val (.int (1 : Int32)), .val (.int (2 : Int32)), .val (.int (2 : Int32))] [])) := fun tq kq => G532 tq (st536 _ kq)
  have G538 : Go p e below A0 (T536.setTop (mkF m 64 #[.val (.ref d), .val (.ref a), .val (.int (2 : Int32)), .val (.int (2 : Int32)), .val (.int (2 : Int32))] [(.ref d), (.int (2 : Int32))])) := fun tq kq => G537 tq (by
    refine XS.iinc X536.here hx rfl (hb hby d11_156) rfl (l' := #[.val (.ref d), .val (.ref a), .val (.int ((1 : Int32) + (1 : Int32))), .val (.int (2 : Int32)), .val (.int (2 : Int32))]) rfl ?_
    show Steps p.tables e below (T536.setTop (mkF m 159 #[.val (.ref d), .val (.ref a), .val (.int ((1 : Int32) + (1 : Int32))), .val (.int (2 : Int32)), .val (.int (2 : Int32))] [])) _
    rw [show ((1 : Int32) + (1 : Int32)) = (2 : Int32) from (by decide : ((1 : Int32) + (1 : Int32)) = (2 : Int32))]
    show Steps p.tables e below (T536.setTop (mkF m 159 #[.val (.ref d), .val (.ref a), .val (.int (2 : Int32)), .val (.int (2 : Int32)), .val (.int (2 : Int32))] [])) _
    refine XS.goto X536.here hx rfl (pc0 := 159) (pc' := 62) rfl (hb hby d11_159) (by decide) (by decide) ?_
    show Steps p.tables e below (T536.setTop (mkF m 62 #[.val (.ref d), .val (.ref a), .val (.int (2 : Int32)), .val (.int (2 : Int32)), .val (.int (2 : Int32))] [])) _
    refine XS.iloadN X536.here hx rfl (hb hby d11_62) rfl ?_
    show Steps p.tables e below (T536.setTop (mkF m 63 #[.val (.ref d), .val (.ref a), .val (.int (2 : Int32)), .val (.int (2 : Int32)), .val (.int (2 : Int32))] [(.int (2 : Int32))])) _
    refine XS.aloadN X536.here hx rfl (hb hby d11_63) rfl rfl ?_
    show Steps p.tables e below (T536.setTop (mkF m 64 #[.val (.ref d), .val (.ref a), .val (.int (2 : Int32)), .val (.int (2 : Int32)), .val (.int (2 : Int32))] [(.ref d), (.int (2 : Int32))])) _
    exact kq)
  have f539 := (((((f487.other W498 (Or.inl (Nat.ne_of_lt lt_d_b436))).other W512 (Or.inl (Nat.ne_of_lt lt_d_b449))).other W522 (Or.inl (Nat.ne_of_lt lt_d_b236))).ext E529).other W536 (Or.inl (Nat.ne_of_lt lt_d_b249)))
  obtain ⟨T540, X540, e540, st540⟩ := getF X536 hx hZ hown (host := "") (Or.inl (hw _ (List.mem_of_getElem? (i := 105) rfl))) Via.refl e536 f539 (g := (mkF m 64 #[.val (.ref d), .val (.ref a), .val (.int (2 : Int32)), .val (.int (2 : Int32)), .val (.int (2 : Int32))] [(.ref d), (.int (2 : Int32))])) rfl rfl (hb hby d11_64)
  have G541 : Go p e below A0 (T540.setTop (mkF m 67 #[.val (.ref d), .val (.ref a), .val (.int (2 : Int32)), .val (.int (2 : Int32)), .val (.int (2 : Int32))] [(.ref b210), (.int (2 : Int32))])) := fun tq kq => G538 tq (st540 _ kq)
  have f542 := (((((f491.other W498 (Nat.ne_of_lt lt_b210_b436)).other W512 (Nat.ne_of_lt lt_b210_b449)).other W522 (Nat.ne_of_lt lt_b210_b236)).ext E529).other W536 (Nat.ne_of_lt lt_b210_b249))
  obtain ⟨cl543, Ar543, q543, S543, M543, H543, Gf543⟩ := id f542
  have G544 : Go p e below A0 (T540.setTop (mkF m 162 #[.val (.ref d), .val (.ref a), .val (.int (2 : Int32)), .val (.int (2 : Int32)), .val (.int (2 : Int32))] [])) := fun tq kq => G541 tq (by
    refine X540.arraylength hx (by rw [e540]; exact Ar543.1) (State.isArrayOf_alike hZ.alike Ar543.2.1) (g := (mkF m 67 #[.val (.ref d), .val (.ref a), .val (.int (2 : Int32)), .val (.int (2 : Int32)), .val (.int (2 : Int32))] [(.ref b210), (.int (2 : Int32))])) rfl rfl (hb hby d11_67) _ ?_
    rw [len_of S543 M543]
    show Steps p.tables e below (T540.setTop (mkF m 68 #[.val (.ref d), .val (.ref a), .val (.int (2 : Int32)), .val (.int (2 : Int32)), .val (.int (2 : Int32))] [(.int (2 : Int32)), (.int (2 : Int32))])) _
    refine XS.icmpYes X540.here hx rfl (pc0 := 68) (pc' := 162) rfl (hb hby d11_68) rfl (by decide) (by decide) (by decide) ?_
    show Steps p.tables e below (T540.setTop (mkF m 162 #[.val (.ref d), .val (.ref a), .val (.int (2 : Int32)), .val (.int (2 : Int32)), .val (.int (2 : Int32))] [])) _
    exact kq)
  have f545 := ((((((((((((((((((((((((((((((((fw202.ext E210).other W215 (Or.inr (slot_ne (Or.inl (hw _ (List.mem_of_getElem? (i := 93) rfl))) (Or.inr (hw _ (List.mem_of_getElem? (i := 106) rfl))) (by decide) (t := .int) (t' := (.array (.array .int))) (by decide) (by decide)))).ext E223).other W228 (Or.inr (slot_ne (Or.inl (hw _ (List.mem_of_getElem? (i := 93) rfl))) (Or.inr (hw _ (List.mem_of_getElem? (i := 108) rfl))) (by decide) (t := .int) (t' := (.array (.array .int))) (by decide) (by decide)))).ext E236).other W241 (Or.inr (slot_ne (Or.inl (hw _ (List.mem_of_getElem? (i := 93) rfl))) (Or.inr (hw _ (List.mem_of_getElem? (i := 110) rfl))) (by decide) (t := .int) (t' := (.array .int)) (by decide) (by decide)))).ext E249).other W254 (Or.inr (slot_ne (Or.inl (hw _ (List.mem_of_getElem? (i := 93) rfl))) (Or.inr (hw _ (List.mem_of_getElem? (i := 112) rfl))) (by decide) (t := .int) (t' := (.array (.array .int))) (by decide) (by decide)))).ext E281).other W287 (Or.inl (Nat.ne_of_lt lt_d_b210))).ext E294).other W301 (Or.inl (Nat.ne_of_lt lt_d_b223))).other W315 (Or.inl (Nat.ne_of_lt lt_d_b281))).other W329 (Or.inl (Nat.ne_of_lt lt_d_b294))).other W343 (Or.inl (Nat.ne_of_lt lt_d_b281))).other W357 (Or.inl (Nat.ne_of_lt lt_d_b294))).other W371 (Or.inl (Nat.ne_of_lt lt_d_b281))).other W385 (Or.inl (Nat.ne_of_lt lt_d_b294))).other W395 (Or.inl (Nat.ne_of_lt lt_d_b236))).ext E402).other W409 (Or.inl (Nat.ne_of_lt lt_d_b249))).ext E436).other W442 (Or.inl (Nat.ne_of_lt lt_d_b210))).ext E449).other W456 (Or.inl (Nat.ne_of_lt lt_d_b223))).other W470 (Or.inl (Nat.ne_of_lt lt_d_b436))).other W484 (Or.inl (Nat.ne_of_lt lt_d_b449))).other W498 (Or.inl (Nat.ne_of_lt lt_d_b436))).other W512 (Or.inl (Nat.ne_of_lt lt_d_b449))).other W522 (Or.inl (Nat.ne_of_lt lt_d_b236))).ext E529).other W536 (Or.inl (Nat.ne_of_lt lt_d_b249)))
  have f546 := ((((f501.other W512 (Or.inl (Nat.ne_of_lt lt_d_b449))).other W522 (Or.inl (Nat.ne_of_lt lt_d_b236))).ext E529).other W536 (Or.inl (Nat.ne_of_lt lt_d_b249)))
  have f547 := (((f515.other W522 (Or.inl (Nat.ne_of_lt lt_d_b236))).ext E529).other W536 (Or.inl (Nat.ne_of_lt lt_d_b249)))
  have f548 := ((f525.ext E529).other W536 (Or.inl (Nat.ne_of_lt lt_d_b249)))
  have f549 := (((((((((((((((((((((((((f252.wr W254).ext E281).wr W287).ext E294).wr W301).wr W315).wr W329).wr W343).wr W357).wr W371).wr W385).wr W395).ext E402).wr W409).ext E436).wr W442).ext E449).wr W456).wr W470).wr W484).wr W498).wr W512).wr W522).ext E529).wr W536)
  have f550 := ((((f505.other W512 (Nat.ne_of_lt lt_b223_b449)).other W522 (Nat.ne_of_lt lt_b223_b236)).ext E529).other W536 (Nat.ne_of_lt lt_b223_b249))
  have f551 := ((V522'.ext E529).other W536 (Nat.ne_of_lt lt_b236_b249))
  have f552 := (((((((((((((((V371'.other W385 (Nat.ne_of_lt lt_b281_b294)).other W395 (Ne.symm (Nat.ne_of_lt lt_b236_b281))).ext E402).other W409 (Ne.symm (Nat.ne_of_lt lt_b249_b281))).ext E436).other W442 (Ne.symm (Nat.ne_of_lt lt_b210_b281))).ext E449).other W456 (Ne.symm (Nat.ne_of_lt lt_b223_b281))).other W470 (Nat.ne_of_lt lt_b281_b436)).other W484 (Nat.ne_of_lt lt_b281_b449)).other W498 (Nat.ne_of_lt lt_b281_b436)).other W512 (Nat.ne_of_lt lt_b281_b449)).other W522 (Ne.symm (Nat.ne_of_lt lt_b236_b281))).ext E529).other W536 (Ne.symm (Nat.ne_of_lt lt_b249_b281)))
  have f553 := ((((((((((((((V385'.other W395 (Ne.symm (Nat.ne_of_lt lt_b236_b294))).ext E402).other W409 (Ne.symm (Nat.ne_of_lt lt_b249_b294))).ext E436).other W442 (Ne.symm (Nat.ne_of_lt lt_b210_b294))).ext E449).other W456 (Ne.symm (Nat.ne_of_lt lt_b223_b294))).other W470 (Nat.ne_of_lt lt_b294_b436)).other W484 (Nat.ne_of_lt lt_b294_b449)).other W498 (Nat.ne_of_lt lt_b294_b436)).other W512 (Nat.ne_of_lt lt_b294_b449)).other W522 (Ne.symm (Nat.ne_of_lt lt_b236_b294))).ext E529).other W536 (Ne.symm (Nat.ne_of_lt lt_b249_b294)))
  have f554 := ((((((((((((V402.other W409 (Ne.symm (Nat.ne_of_lt lt_b249_b402))).ext E436).other W442 (Ne.symm (Nat.ne_of_lt lt_b210_b402))).ext E449).other W456 (Ne.symm (Nat.ne_of_lt lt_b223_b402))).other W470 (Nat.ne_of_lt lt_b402_b436)).other W484 (Nat.ne_of_lt lt_b402_b449)).other W498 (Nat.ne_of_lt lt_b402_b436)).other W512 (Nat.ne_of_lt lt_b402_b449)).other W522 (Ne.symm (Nat.ne_of_lt lt_b236_b402))).ext E529).other W536 (Ne.symm (Nat.ne_of_lt lt_b249_b402)))
  have f555 := ((((V498'.other W512 (Nat.ne_of_lt lt_b436_b449)).other W522 (Ne.symm (Nat.ne_of_lt lt_b236_b436))).ext E529).other W536 (Ne.symm (Nat.ne_of_lt lt_b249_b436)))
  have f556 := (((V512'.other W522 (Ne.symm (Nat.ne_of_lt lt_b236_b449))).ext E529).other W536 (Ne.symm (Nat.ne_of_lt lt_b249_b449)))
  have f557 := (V529.other W536 (Ne.symm (Nat.ne_of_lt lt_b249_b529)))
  obtain ⟨fs, hr, hrun, hended, hW, hsame⟩ := X540.leave (v := none) (fun _ => rfl)
  refine ⟨_, _, (by rw [← hA0]; exact G544 _ (X540.returnOut hx Bd.returns (hb hby d11_162) hr)), hrun, hended, _, _, rfl, ?_, ⟨_, rfl⟩, hW, hsame.mono (by decide) (by decide)⟩
  show Qd Z d h0 n0 _ T540.heap _
  rw [e540]
  exact ⟨b210, b223, b236, b249, b281, b294, b402, b436, b449, b529, rfl, N536, ((((((((((((((((((((((((((((((((((Keep.refl h0 [d]).wr W202 (Or.inl (List.mem_of_getElem? (i := 0) rfl))).ext E210).wr W215 (Or.inl (List.mem_of_getElem? (i := 0) rfl))).ext E223).wr W228 (Or.inl (List.mem_of_getElem? (i := 0) rfl))).ext E236).wr W241 (Or.inl (List.mem_of_getElem? (i := 0) rfl))).ext E249).wr W254 (Or.inl (List.mem_of_getElem? (i := 0) rfl))).ext E281).wr W287 (Or.inr sz_b210)).ext E294).wr W301 (Or.inr sz_b223)).wr W315 (Or.inr sz_b281)).wr W329 (Or.inr sz_b294)).wr W343 (Or.inr sz_b281)).wr W357 (Or.inr sz_b294)).wr W371 (Or.inr sz_b281)).wr W385 (Or.inr sz_b294)).wr W395 (Or.inr sz_b236)).ext E402).wr W409 (Or.inr sz_b249)).ext E436).wr W442 (Or.inr sz_b210)).ext E449).wr W456 (Or.inr sz_b223)).wr W470 (Or.inr sz_b436)).wr W484 (Or.inr sz_b449)).wr W498 (Or.inr sz_b436)).wr W512 (Or.inr sz_b449)).wr W522 (Or.inr sz_b236)).ext E529).wr W536 (Or.inr sz_b249)), sz_b210, ⟨gd, lt_d_b210, lt_b210_b223, lt_b223_b236, lt_b236_b249, lt_b249_b281, lt_b281_b294, lt_b294_b402, lt_b402_b436, lt_b436_b449, lt_b449_b529⟩, ⟨f549, f545, f539, f546, f547, f548, ⟨_, f542⟩, ⟨_, f550⟩, ⟨_, V536'⟩, own_ai f551 own_lsz, own_ai f552 (own_lid3), own_ai f553 (own_lid3), own_ai f554 (own_lz3), own_ai f555 (own_lid2), own_ai f556 (own_lid2), own_ai f557 (own_lz2)⟩⟩
def Qm0 (Z : State) (d mem pos siz mrk m0 p0 k0 m1 p1 k1 : Addr) (rd : Int32) (fsz fm0 fp0 fk0 fm1 fp1 fk1 : Nat → Int32) (r ix : Int32) (h0 : Heap) (n0 : Nat) (v : Option Value) (h : Heap) (L : List Loc) : Prop := v = some (.int r) ∧ Fr n0 L ∧ Keep h0 h [k0] ∧ Dom Z h d mem pos siz mrk m0 p0 k0 m1 p1 k1 rd (fsz) (fm0) (fp0) (own_up fk0 ix.toNatClampNeg rd) (fm1) (fp1) (fk1)
set_option maxRecDepth 65536 in
set_option maxHeartbeats 40000000 in
theorem rmM0 (l : Launch) (Z : State) (a0 : Array Value) (hw : ∀ d ∈ tables_1, d.before a0 Z = true) (ws : List Jvm.Cond) (d mem pos siz mrk m0 p0 k0 m1 p1 k1 : Addr) (rd : Int32) (fsz fm0 fp0 fk0 fm1 fp1 fk1 : Nat → Int32) (r ix : Int32) (h0 : Heap) (n0 : Nat) (Z0 : n0 ≤ h0.size) (hord : Ord n0 d mem pos siz mrk m0 p0 k0 m1 p1 k1) (hdom : Dom Z h0 d mem pos siz mrk m0 p0 k0 m1 p1 k1 rd (fsz) (fm0) (fp0) (fk0) (fm1) (fp1) (fk1)) (hp : ¬ ix < 0 ∧ ix < (3 : Int32)) (hr0 : own_b (¬ (fk0 ix.toNatClampNeg) = rd) = r) :
    MetFree l (⟨"com/example/ludarc/ludarc/engine/Domains", "mark", "(II)Z"⟩ : MethodName) (head1 (Jvm.Cond.code (⟨"com/example/ludarc/ludarc/engine/Domains", "mark", "(II)Z"⟩ : MethodName) prog_5_method_12_code 4 (some .boolean) :: ws) ({ frames := 0, cells := 0, slots := 0, locals := 0 } : Room)) (fun aa UU => aa = #[(.ref d), (.int (0 : Int32)), (.int ix)] ∧ Z.Warmed39 UU.vm ∧ UU.heap = h0) (fun _ _ _ _ _ => True) (fun _ UU oo U' => ∃ v L, oo = .returned v ∧ Qm0 Z d mem pos siz mrk m0 p0 k0 m1 p1 k1 rd fsz fm0 fp0 fk0 fm1 fp1 fk1 r ix h0 n0 v U'.heap L ∧ FrameEnd UU oo U' L ({ frames := 0, cells := 0, slots := 0, locals := 0 } : Room).cells ({ frames := 0, cells := 0, slots := 0, locals := 0 } : Room).slots) := by
  refine MetFree.of_bodySF (plainFor_of_name pn_6) hisR ?_
  intro p e s m args below meth c s₁ Bd hml0 hP hK
  obtain ⟨rfl, hZ, hh⟩ := hP
  have hx := Bd.exec
  have hby := Bd.bytes
  have hml : c.maxLocals = 4 := hml0
  have hown : s.vm.findClass "com/example/ludarc/ludarc/engine/Domains" = some m.cls := findClass_of_methodNamed Bd.named
  have hnm := (name_of_methodNamed Bd.named Bd.method).1
  have X0 : Stand p l e ({ frames := 0, cells := 0, slots := 0, locals := 0 } : Room) s m #[(.ref d), (.int (0 : Int32)), (.int ix)] below meth c s₁ [] 0 0 := Stand.of_body Bd
  have e0 : s₁.heap = h0 := by rw [← hh, Bd.state]; rfl
  have N0 := Fr.nil n0
  obtain ⟨A0, hA0⟩ : ∃ A, A = s₁.setTop (entryFrame m #[(.ref d), (.int (0 : Int32)), (.int ix)] 4) := ⟨_, rfl⟩
  have G0 : Go p e below A0 (s₁.setTop (mkF m 0 #[.val (.ref d), .val (.int (0 : Int32)), .val (.int ix), .unset] [])) := fun tq kq => by rw [hA0]; exact castTop (ef_rmM0 m d (0 : Int32) ix) kq
  obtain ⟨o0, o1, o2, o3, o4, o5, o6, o7, o8, o9, o10⟩ := hord
  obtain ⟨Ed, D0_, D1_, D2_, D3_, D4_, ⟨cmem, Amem⟩, ⟨cpos, Apos⟩, ⟨cmrk, Amrk⟩, ⟨csiz, Asiz⟩, ⟨cm0, Am0⟩, ⟨cp0, Ap0⟩, ⟨ck0, Ak0⟩, ⟨cm1, Am1⟩, ⟨cp1, Ap1⟩, ⟨ck1, Ak1⟩⟩ := hdom
  have G558 : Go p e below A0 (s₁.setTop (mkF m 1 #[.val (.ref d), .val (.int (0 : Int32)), .val (.int ix), .unset] [(.ref d)])) := fun tq kq => G0 tq (by
    refine XS.aloadN X0.here hx rfl (hb hby d18_0) rfl rfl ?_
    show Steps p.tables e below (s₁.setTop (mkF m 1 #[.val (.ref d), .val (.int (0 : Int32)), .val (.int ix), .unset] [(.ref d)])) _
    exact kq)
  obtain ⟨T559, X559, e559, st559⟩ := getF X0 hx hZ hown (host := "") (Or.inl (hw _ (List.mem_of_getElem? (i := 111) rfl))) Via.refl e0 D4_ (g := (mkF m 1 #[.val (.ref d), .val (.int (0 : Int32)), .val (.int ix), .unset] [(.ref d)])) rfl rfl (hb hby d18_1)
  have G560 : Go p e below A0 (T559.setTop (mkF m 4 #[.val (.ref d), .val (.int (0 : Int32)), .val (.int ix), .unset] [(.ref mrk)])) := fun tq kq => G558 tq (st559 _ kq)
  have G561 : Go p e below A0 (T559.setTop (mkF m 5 #[.val (.ref d), .val (.int (0 : Int32)), .val (.int ix), .unset] [(.int (0 : Int32)), (.ref mrk)])) := fun tq kq => G560 tq (by
    refine XS.iloadN X559.here hx rfl (hb hby d18_4) rfl ?_
    show Steps p.tables e below (T559.setTop (mkF m 5 #[.val (.ref d), .val (.int (0 : Int32)), .val (.int ix), .unset] [(.int (0 : Int32)), (.ref mrk)])) _
    exact kq)
  obtain ⟨cl562, Ar562, q562, S562, M562, H562, Gf562⟩ := id Amrk
  have hi563 : ¬ ((0 : Int32) < 0 ∨ cl562.slots.size ≤ ((0 : Int32)).toNatClampNeg) := (inb_of S562 ⟨by decide, by decide⟩)
  have G564 : Go p e below A0 (T559.setTop (mkF m 7 #[.val (.ref d), .val (.int (0 : Int32)), .val (.int ix), .unset] [(.int ix), (.ref k0)])) := fun tq kq => G561 tq (by
    refine X559.aaload hx (j := (0 : Int32)) (v := (.ref k0)) (by rw [e559]; exact Ar562.1) (State.isArrayOf_alike hZ.alike Ar562.2.1) rfl Ar562.2.2 hi563 (H562.at hi563 rfl) (g := (mkF m 5 #[.val (.ref d), .val (.int (0 : Int32)), .val (.int ix), .unset] [(.int (0 : Int32)), (.ref mrk)])) rfl rfl (hb hby d18_5) _ ?_
    show Steps p.tables e below (T559.setTop (mkF m 6 #[.val (.ref d), .val (.int (0 : Int32)), .val (.int ix), .unset] [(.ref k0)])) _
    refine XS.iloadN X559.here hx rfl (hb hby d18_6) rfl ?_
    show Steps p.tables e below (T559.setTop (mkF m 7 #[.val (.ref d), .val (.int (0 : Int32)), .val (.int ix), .unset] [(.int ix), (.ref k0)])) _
    exact kq)
  obtain ⟨cl565, Ar565, q565, S565, M565, H565⟩ := id Ak0
  have hi566 : ¬ (ix < 0 ∨ cl565.slots.size ≤ (ix).toNatClampNeg) := (inb_of S565 hp)
  have G567 : Go p e below A0 (T559.setTop (mkF m 9 #[.val (.ref d), .val (.int (0 : Int32)), .val (.int ix), .unset] [(.ref d), (.int (fk0 (ix).toNatClampNeg))])) := fun tq kq => G564 tq (by
    refine X559.iaload hx (j := ix) (v := (.int (fk0 (ix).toNatClampNeg))) (by rw [e559]; exact Ar565.1) (State.isArrayOf_alike hZ.alike Ar565.2.1) Ar565.2.2 hi566 ((H565 _ (S565 ▸ Nat.lt_of_not_le fun y => hi566 (Or.inr y))).trans (congrArg some rfl)) (g := (mkF m 7 #[.val (.ref d), .val (.int (0 : Int32)), .val (.int ix), .unset] [(.int ix), (.ref k0)])) rfl rfl (hb hby d18_7) _ ?_
    show Steps p.tables e below (T559.setTop (mkF m 8 #[.val (.ref d), .val (.int (0 : Int32)), .val (.int ix), .unset] [(.int (fk0 (ix).toNatClampNeg))])) _
    refine XS.aloadN X559.here hx rfl (hb hby d18_8) rfl rfl ?_
    show Steps p.tables e below (T559.setTop (mkF m 9 #[.val (.ref d), .val (.int (0 : Int32)), .val (.int ix), .unset] [(.ref d), (.int (fk0 (ix).toNatClampNeg))])) _
    exact kq)
  obtain ⟨T568, X568, e568, st568⟩ := getF X559 hx hZ hown (host := "") (Or.inl (hw _ (List.mem_of_getElem? (i := 92) rfl))) Via.refl e559 D0_ (g := (mkF m 9 #[.val (.ref d), .val (.int (0 : Int32)), .val (.int ix), .unset] [(.ref d), (.int (fk0 (ix).toNatClampNeg))])) rfl rfl (hb hby d18_9)
  have G569 : Go p e below A0 (T568.setTop (mkF m 12 #[.val (.ref d), .val (.int (0 : Int32)), .val (.int ix), .unset] [(.int rd), (.int (fk0 (ix).toNatClampNeg))])) := fun tq kq => G567 tq (st568 _ kq)
  obtain ⟨fr, hG570, G570⟩ : ∃ (fr : Int32), (fr = own_b (¬ (fk0 ix.toNatClampNeg) = rd)) ∧ Go p e below A0 (T568.setTop (mkF m 20 #[.val (.ref d), .val (.int (0 : Int32)), .val (.int ix), .unset] [(.int fr)])) := by
    by_cases hc571 : (fk0 (ix).toNatClampNeg) = rd
    · have G572 : Go p e below A0 (T568.setTop (mkF m 20 #[.val (.ref d), .val (.int (0 : Int32)), .val (.int ix), .unset] [(.int (0 : Int32))])) := fun tq kq => G569 tq (by
        refine XS.icmpYes X568.here hx rfl (pc0 := 12) (pc' := 19) rfl (hb hby d18_12) rfl (teq hc571).1 (by decide) (by decide) ?_
        show Steps p.tables e below (T568.setTop (mkF m 19 #[.val (.ref d), .val (.int (0 : Int32)), .val (.int ix), .unset] [])) _
        refine XS.iconst X568.here hx rfl (hb hby d18_19) ?_
        show Steps p.tables e below (T568.setTop (mkF m 20 #[.val (.ref d), .val (.int (0 : Int32)), .val (.int ix), .unset] [(.int (0 : Int32))])) _
        exact kq)
      exact ⟨(0 : Int32), (by simp only [own_b, hc571, not_true_eq_false, not_false_eq_true, if_true, if_false, or_true, true_or, or_false, false_or, and_true, true_and, and_false, false_and, and_self, or_self]), G572⟩
    · have G573 : Go p e below A0 (T568.setTop (mkF m 20 #[.val (.ref d), .val (.int (0 : Int32)), .val (.int ix), .unset] [(.int (1 : Int32))])) := fun tq kq => G569 tq (by
        refine XS.icmpNo X568.here hx rfl (hb hby d18_12) rfl (feq hc571).1 ?_
        show Steps p.tables e below (T568.setTop (mkF m 15 #[.val (.ref d), .val (.int (0 : Int32)), .val (.int ix), .unset] [])) _
        refine XS.iconst X568.here hx rfl (hb hby d18_15) ?_
        show Steps p.tables e below (T568.setTop (mkF m 16 #[.val (.ref d), .val (.int (0 : Int32)), .val (.int ix), .unset] [(.int (1 : Int32))])) _
        refine XS.goto X568.here hx rfl (pc0 := 16) (pc' := 20) rfl (hb hby d18_16) (by decide) (by decide) ?_
        show Steps p.tables e below (T568.setTop (mkF m 20 #[.val (.ref d), .val (.int (0 : Int32)), .val (.int ix), .unset] [(.int (1 : Int32))])) _
        exact kq)
      exact ⟨(1 : Int32), (by simp only [own_b, hc571, not_true_eq_false, not_false_eq_true, if_true, if_false, or_true, true_or, or_false, false_or, and_true, true_and, and_false, false_and, and_self, or_self]), G573⟩
  subst hG570
  have G574 : Go p e below A0 (T568.setTop (mkF m 22 #[.val (.ref d), .val (.int (0 : Int32)), .val (.int ix), .val (.int (own_b (¬ (fk0 ix.toNatClampNeg) = rd)))] [(.ref d)])) := fun tq kq => G570 tq (by
    refine XS.istoreN X568.here hx rfl (hb hby d18_20) rfl (l' := #[.val (.ref d), .val (.int (0 : Int32)), .val (.int ix), .val (.int (own_b (¬ (fk0 ix.toNatClampNeg) = rd)))]) rfl ?_
    show Steps p.tables e below (T568.setTop (mkF m 21 #[.val (.ref d), .val (.int (0 : Int32)), .val (.int ix), .val (.int (own_b (¬ (fk0 ix.toNatClampNeg) = rd)))] [])) _
    refine XS.aloadN X568.here hx rfl (hb hby d18_21) rfl rfl ?_
    show Steps p.tables e below (T568.setTop (mkF m 22 #[.val (.ref d), .val (.int (0 : Int32)), .val (.int ix), .val (.int (own_b (¬ (fk0 ix.toNatClampNeg) = rd)))] [(.ref d)])) _
    exact kq)
  obtain ⟨T575, X575, e575, st575⟩ := getF X568 hx hZ hown (host := "") (Or.inl (hw _ (List.mem_of_getElem? (i := 111) rfl))) Via.refl e568 D4_ (g := (mkF m 22 #[.val (.ref d), .val (.int (0 : Int32)), .val (.int ix), .val (.int (own_b (¬ (fk0 ix.toNatClampNeg) = rd)))] [(.ref d)])) rfl rfl (hb hby d18_22)
  have G576 : Go p e below A0 (T575.setTop (mkF m 25 #[.val (.ref d), .val (.int (0 : Int32)), .val (.int ix), .val (.int (own_b (¬ (fk0 ix.toNatClampNeg) = rd)))] [(.ref mrk)])) := fun tq kq => G574 tq (st575 _ kq)
  have G577 : Go p e below A0 (T575.setTop (mkF m 26 #[.val (.ref d), .val (.int (0 : Int32)), .val (.int ix), .val (.int (own_b (¬ (fk0 ix.toNatClampNeg) = rd)))] [(.int (0 : Int32)), (.ref mrk)])) := fun tq kq => G576 tq (by
    refine XS.iloadN X575.here hx rfl (hb hby d18_25) rfl ?_
    show Steps p.tables e below (T575.setTop (mkF m 26 #[.val (.ref d), .val (.int (0 : Int32)), .val (.int ix), .val (.int (own_b (¬ (fk0 ix.toNatClampNeg) = rd)))] [(.int (0 : Int32)), (.ref mrk)])) _
    exact kq)
  obtain ⟨cl578, Ar578, q578, S578, M578, H578, Gf578⟩ := id Amrk
  have hi579 : ¬ ((0 : Int32) < 0 ∨ cl578.slots.size ≤ ((0 : Int32)).toNatClampNeg) := (inb_of S578 ⟨by decide, by decide⟩)
  have G580 : Go p e below A0 (T575.setTop (mkF m 29 #[.val (.ref d), .val (.int (0 : Int32)), .val (.int ix), .val (.int (own_b (¬ (fk0 ix.toNatClampNeg) = rd)))] [(.ref d), (.int ix), (.ref k0)])) := fun tq kq => G577 tq (by
    refine X575.aaload hx (j := (0 : Int32)) (v := (.ref k0)) (by rw [e575]; exact Ar578.1) (State.isArrayOf_alike hZ.alike Ar578.2.1) rfl Ar578.2.2 hi579 (H578.at hi579 rfl) (g := (mkF m 26 #[.val (.ref d), .val (.int (0 : Int32)), .val (.int ix), .val (.int (own_b (¬ (fk0 ix.toNatClampNeg) = rd)))] [(.int (0 : Int32)), (.ref mrk)])) rfl rfl (hb hby d18_26) _ ?_
    show Steps p.tables e below (T575.setTop (mkF m 27 #[.val (.ref d), .val (.int (0 : Int32)), .val (.int ix), .val (.int (own_b (¬ (fk0 ix.toNatClampNeg) = rd)))] [(.ref k0)])) _
    refine XS.iloadN X575.here hx rfl (hb hby d18_27) rfl ?_
    show Steps p.tables e below (T575.setTop (mkF m 28 #[.val (.ref d), .val (.int (0 : Int32)), .val (.int ix), .val (.int (own_b (¬ (fk0 ix.toNatClampNeg) = rd)))] [(.int ix), (.ref k0)])) _
    refine XS.aloadN X575.here hx rfl (hb hby d18_28) rfl rfl ?_
    show Steps p.tables e below (T575.setTop (mkF m 29 #[.val (.ref d), .val (.int (0 : Int32)), .val (.int ix), .val (.int (own_b (¬ (fk0 ix.toNatClampNeg) = rd)))] [(.ref d), (.int ix), (.ref k0)])) _
    exact kq)
  obtain ⟨T581, X581, e581, st581⟩ := getF X575 hx hZ hown (host := "") (Or.inl (hw _ (List.mem_of_getElem? (i := 92) rfl))) Via.refl e575 D0_ (g := (mkF m 29 #[.val (.ref d), .val (.int (0 : Int32)), .val (.int ix), .val (.int (own_b (¬ (fk0 ix.toNatClampNeg) = rd)))] [(.ref d), (.int ix), (.ref k0)])) rfl rfl (hb hby d18_29)
  have G582 : Go p e below A0 (T581.setTop (mkF m 32 #[.val (.ref d), .val (.int (0 : Int32)), .val (.int ix), .val (.int (own_b (¬ (fk0 ix.toNatClampNeg) = rd)))] [(.int rd), (.int ix), (.ref k0)])) := fun tq kq => G580 tq (st581 _ kq)
  obtain ⟨cl583, Ar583, q583, S583, M583, H583⟩ := id Ak0
  have hi584 : ¬ (ix < 0 ∨ cl583.slots.size ≤ (ix).toNatClampNeg) := (inb_of S583 hp)
  obtain ⟨T585, h585, X585, e585, W585, st585⟩ := stI X581 hx hZ e581 Ar583 (j := ix) hi584 (g := (mkF m 32 #[.val (.ref d), .val (.int (0 : Int32)), .val (.int ix), .val (.int (own_b (¬ (fk0 ix.toNatClampNeg) = rd)))] [(.int rd), (.int ix), (.ref k0)])) rfl rfl (hb hby d18_32)
  have N585 := Fr.snoc X585 N0 (show @LE.le Nat _ n0 k0 by omega)
  have V585 : Af Z h585 k0 ck0 .int (3 : Int32) (fun i => .int ((own_up fk0 (ix).toNatClampNeg rd) i)) := (Af.set Ar583 q583 S583 M583 H583 W585 hi584).fn (fun j _ => by show (if j = _ then _ else _) = Value.int (if j = _ then _ else _); split <;> rfl)
  have G586 : Go p e below A0 (T585.setTop (mkF m 33 #[.val (.ref d), .val (.int (0 : Int32)), .val (.int ix), .val (.int (own_b (¬ (fk0 ix.toNatClampNeg) = rd)))] [])) := fun tq kq => G582 tq (st585 _ kq)
  have G587 : Go p e below A0 (T585.setTop (mkF m 34 #[.val (.ref d), .val (.int (0 : Int32)), .val (.int ix), .val (.int (own_b (¬ (fk0 ix.toNatClampNeg) = rd)))] [(.int (own_b (¬ (fk0 ix.toNatClampNeg) = rd)))])) := fun tq kq => G586 tq (by
    refine XS.iloadN X585.here hx rfl (hb hby d18_33) rfl ?_
    show Steps p.tables e below (T585.setTop (mkF m 34 #[.val (.ref d), .val (.int (0 : Int32)), .val (.int ix), .val (.int (own_b (¬ (fk0 ix.toNatClampNeg) = rd)))] [(.int (own_b (¬ (fk0 ix.toNatClampNeg) = rd)))])) _
    exact kq)
  have f588 := (D0_.other W585 (Or.inl (show @Ne Nat d k0 by omega)))
  have f589 := (D1_.other W585 (Or.inl (show @Ne Nat d k0 by omega)))
  have f590 := (D2_.other W585 (Or.inl (show @Ne Nat d k0 by omega)))
  have f591 := (D3_.other W585 (Or.inl (show @Ne Nat d k0 by omega)))
  have f592 := (D4_.other W585 (Or.inl (show @Ne Nat d k0 by omega)))
  have f593 := (Ed.wr W585)
  have f594 := (Amem.other W585 (show @Ne Nat mem k0 by omega))
  have f595 := (Apos.other W585 (show @Ne Nat pos k0 by omega))
  have f596 := (Asiz.other W585 (show @Ne Nat siz k0 by omega))
  have f597 := (Amrk.other W585 (show @Ne Nat mrk k0 by omega))
  have f598 := (Am0.other W585 (show @Ne Nat m0 k0 by omega))
  have f599 := (Ap0.other W585 (show @Ne Nat p0 k0 by omega))
  have f600 := (Am1.other W585 (Ne.symm (show @Ne Nat k0 m1 by omega)))
  have f601 := (Ap1.other W585 (Ne.symm (show @Ne Nat k0 p1 by omega)))
  have f602 := (Ak1.other W585 (Ne.symm (show @Ne Nat k0 k1 by omega)))
  obtain ⟨fs, hr, hrun, hended, hW, hsame⟩ := X585.leave (v := some (.int (nar .boolean (own_b (¬ (fk0 ix.toNatClampNeg) = rd))))) (fun h => by rw [Bd.returns] at h; cases h)
  refine ⟨_, _, (by rw [← hA0]; exact G587 _ (retN X585 hx (t := .boolean) Bd.returns (by simp) (hb hby d18_34) hr)), hrun, hended, _, _, rfl, ?_, ⟨_, rfl⟩, hW, hsame.mono (by decide) (by decide)⟩
  show Qm0 Z d mem pos siz mrk m0 p0 k0 m1 p1 k1 rd fsz fm0 fp0 fk0 fm1 fp1 fk1 r ix h0 n0 _ T585.heap _
  rw [e585]
  exact ⟨(by rw [own_nb, hr0]), N585, ((Keep.refl h0 [k0]).wr W585 (Or.inl (List.mem_of_getElem? (i := 0) rfl))), ⟨f593, f588, f589, f590, f591, f592, ⟨_, f594⟩, ⟨_, f595⟩, ⟨_, f597⟩, ⟨_, f596⟩, ⟨_, f598⟩, ⟨_, f599⟩, ⟨_, V585⟩, ⟨_, f600⟩, ⟨_, f601⟩, ⟨_, f602⟩⟩⟩
set_option maxRecDepth 65536 in
set_option maxHeartbeats 40000000 in
theorem rmI0 (l : Launch) (Z : State) (a0 : Array Value) (hw : ∀ d ∈ tables_1, d.before a0 Z = true) (ws : List Jvm.Cond) (d mem pos siz mrk m0 p0 k0 m1 p1 k1 : Addr) (rd : Int32) (fsz fm0 fp0 fk0 fm1 fp1 fk1 : Nat → Int32) (r ix : Int32) (h0 : Heap) (n0 : Nat) (Z0 : n0 ≤ h0.size) (hord : Ord n0 d mem pos siz mrk m0 p0 k0 m1 p1 k1) (hdom : Dom Z h0 d mem pos siz mrk m0 p0 k0 m1 p1 k1 rd (fsz) (fm0) (fp0) (fk0) (fm1) (fp1) (fk1)) (hp : ¬ ix < 0 ∧ ix < (3 : Int32)) (hr0 : own_b ((fk0 ix.toNatClampNeg) = rd) = r) :
    MetFree l (⟨"com/example/ludarc/ludarc/engine/Domains", "isMarked", "(II)Z"⟩ : MethodName) (head1 (Jvm.Cond.code (⟨"com/example/ludarc/ludarc/engine/Domains", "isMarked", "(II)Z"⟩ : MethodName) prog_5_method_13_code 3 (some .boolean) :: ws) ({ frames := 0, cells := 0, slots := 0, locals := 0 } : Room)) (fun aa UU => aa = #[(.ref d), (.int (0 : Int32)), (.int ix)] ∧ Z.Warmed39 UU.vm ∧ UU.heap = h0) (fun _ _ _ _ _ => True) (fun _ UU oo U' => ∃ v L, oo = .returned v ∧ Qr (.int r) h0 n0 v U'.heap L ∧ FrameEnd UU oo U' L ({ frames := 0, cells := 0, slots := 0, locals := 0 } : Room).cells ({ frames := 0, cells := 0, slots := 0, locals := 0 } : Room).slots) := by
  refine MetFree.of_bodySF (plainFor_of_name pn_6) hisR ?_
  intro p e s m args below meth c s₁ Bd hml0 hP hK
  obtain ⟨rfl, hZ, hh⟩ := hP
  have hx := Bd.exec
  have hby := Bd.bytes
  have hml : c.maxLocals = 3 := hml0
  have hown : s.vm.findClass "com/example/ludarc/ludarc/engine/Domains" = some m.cls := findClass_of_methodNamed Bd.named
  have hnm := (name_of_methodNamed Bd.named Bd.method).1
  have X0 : Stand p l e ({ frames := 0, cells := 0, slots := 0, locals := 0 } : Room) s m #[(.ref d), (.int (0 : Int32)), (.int ix)] below meth c s₁ [] 0 0 := Stand.of_body Bd
  have e0 : s₁.heap = h0 := by rw [← hh, Bd.state]; rfl
  have N0 := Fr.nil n0
  obtain ⟨A0, hA0⟩ : ∃ A, A = s₁.setTop (entryFrame m #[(.ref d), (.int (0 : Int32)), (.int ix)] 3) := ⟨_, rfl⟩
  have G0 : Go p e below A0 (s₁.setTop (mkF m 0 #[.val (.ref d), .val (.int (0 : Int32)), .val (.int ix)] [])) := fun tq kq => by rw [hA0]; exact castTop (ef_rmI0 m d (0 : Int32) ix) kq
  obtain ⟨o0, o1, o2, o3, o4, o5, o6, o7, o8, o9, o10⟩ := hord
  obtain ⟨Ed, D0_, D1_, D2_, D3_, D4_, ⟨cmem, Amem⟩, ⟨cpos, Apos⟩, ⟨cmrk, Amrk⟩, ⟨csiz, Asiz⟩, ⟨cm0, Am0⟩, ⟨cp0, Ap0⟩, ⟨ck0, Ak0⟩, ⟨cm1, Am1⟩, ⟨cp1, Ap1⟩, ⟨ck1, Ak1⟩⟩ := hdom
  have G603 : Go p e below A0 (s₁.setTop (mkF m 1 #[.val (.ref d), .val (.int (0 : Int32)), .val (.int ix)] [(.ref d)])) := fun tq kq => G0 tq (by
    refine XS.aloadN X0.here hx rfl (hb hby d19_0) rfl rfl ?_
    show Steps p.tables e below (s₁.setTop (mkF m 1 #[.val (.ref d), .val (.int (0 : Int32)), .val (.int ix)] [(.ref d)])) _
    exact kq)
  obtain ⟨T604, X604, e604, st604⟩ := getF X0 hx hZ hown (host := "") (Or.inl (hw _ (List.mem_of_getElem? (i := 111) rfl))) Via.refl e0 D4_ (g := (mkF m 1 #[.val (.ref d), .val (.int (0 : Int32)), .val (.int ix)] [(.ref d)])) rfl rfl (hb hby d19_1)
  have G605 : Go p e below A0 (T604.setTop (mkF m 4 #[.val (.ref d), .val (.int (0 : Int32)), .val (.int ix)] [(.ref mrk)])) := fun tq kq => G603 tq (st604 _ kq)
  have G606 : Go p e below A0 (T604.setTop (mkF m 5 #[.val (.ref d), .val (.int (0 : Int32)), .val (.int ix)] [(.int (0 : Int32)), (.ref mrk)])) := fun tq kq => G605 tq (by
    refine XS.iloadN X604.here hx rfl (hb hby d19_4) rfl ?_
    show Steps p.tables e below (T604.setTop (mkF m 5 #[.val (.ref d), .val (.int (0 : Int32)), .val (.int ix)] [(.int (0 : Int32)), (.ref mrk)])) _
    exact kq)
  obtain ⟨cl607, Ar607, q607, S607, M607, H607, Gf607⟩ := id Amrk
  have hi608 : ¬ ((0 : Int32) < 0 ∨ cl607.slots.size ≤ ((0 : Int32)).toNatClampNeg) := (inb_of S607 ⟨by decide, by decide⟩)
  have G609 : Go p e below A0 (T604.setTop (mkF m 7 #[.val (.ref d), .val (.int (0 : Int32)), .val (.int ix)] [(.int ix), (.ref k0)])) := fun tq kq => G606 tq (by
    refine X604.aaload hx (j := (0 : Int32)) (v := (.ref k0)) (by rw [e604]; exact Ar607.1) (State.isArrayOf_alike hZ.alike Ar607.2.1) rfl Ar607.2.2 hi608 (H607.at hi608 rfl) (g := (mkF m 5 #[.val (.ref d), .val (.int (0 : Int32)), .val (.int ix)] [(.int (0 : Int32)), (.ref mrk)])) rfl rfl (hb hby d19_5) _ ?_
    show Steps p.tables e below (T604.setTop (mkF m 6 #[.val (.ref d), .val (.int (0 : Int32)), .val (.int ix)] [(.ref k0)])) _
    refine XS.iloadN X604.here hx rfl (hb hby d19_6) rfl ?_
    show Steps p.tables e below (T604.setTop (mkF m 7 #[.val (.ref d), .val (.int (0 : Int32)), .val (.int ix)] [(.int ix), (.ref k0)])) _
    exact kq)
  obtain ⟨cl610, Ar610, q610, S610, M610, H610⟩ := id Ak0
  have hi611 : ¬ (ix < 0 ∨ cl610.slots.size ≤ (ix).toNatClampNeg) := (inb_of S610 hp)
  have G612 : Go p e below A0 (T604.setTop (mkF m 9 #[.val (.ref d), .val (.int (0 : Int32)), .val (.int ix)] [(.ref d), (.int (fk0 (ix).toNatClampNeg))])) := fun tq kq => G609 tq (by
    refine X604.iaload hx (j := ix) (v := (.int (fk0 (ix).toNatClampNeg))) (by rw [e604]; exact Ar610.1) (State.isArrayOf_alike hZ.alike Ar610.2.1) Ar610.2.2 hi611 ((H610 _ (S610 ▸ Nat.lt_of_not_le fun y => hi611 (Or.inr y))).trans (congrArg some rfl)) (g := (mkF m 7 #[.val (.ref d), .val (.int (0 : Int32)), .val (.int ix)] [(.int ix), (.ref k0)])) rfl rfl (hb hby d19_7) _ ?_
    show Steps p.tables e below (T604.setTop (mkF m 8 #[.val (.ref d), .val (.int (0 : Int32)), .val (.int ix)] [(.int (fk0 (ix).toNatClampNeg))])) _
    refine XS.aloadN X604.here hx rfl (hb hby d19_8) rfl rfl ?_
    show Steps p.tables e below (T604.setTop (mkF m 9 #[.val (.ref d), .val (.int (0 : Int32)), .val (.int ix)] [(.ref d), (.int (fk0 (ix).toNatClampNeg))])) _
    exact kq)
  obtain ⟨T613, X613, e613, st613⟩ := getF X604 hx hZ hown (host := "") (Or.inl (hw _ (List.mem_of_getElem? (i := 92) rfl))) Via.refl e604 D0_ (g := (mkF m 9 #[.val (.ref d), .val (.int (0 : Int32)), .val (.int ix)] [(.ref d), (.int (fk0 (ix).toNatClampNeg))])) rfl rfl (hb hby d19_9)
  have G614 : Go p e below A0 (T613.setTop (mkF m 12 #[.val (.ref d), .val (.int (0 : Int32)), .val (.int ix)] [(.int rd), (.int (fk0 (ix).toNatClampNeg))])) := fun tq kq => G612 tq (st613 _ kq)
  by_cases hc615 : (fk0 (ix).toNatClampNeg) = rd
  · have G616 : Go p e below A0 (T613.setTop (mkF m 20 #[.val (.ref d), .val (.int (0 : Int32)), .val (.int ix)] [(.int (1 : Int32))])) := fun tq kq => G614 tq (by
      refine XS.icmpNo X613.here hx rfl (hb hby d19_12) rfl (teq hc615).2 ?_
      show Steps p.tables e below (T613.setTop (mkF m 15 #[.val (.ref d), .val (.int (0 : Int32)), .val (.int ix)] [])) _
      refine XS.iconst X613.here hx rfl (hb hby d19_15) ?_
      show Steps p.tables e below (T613.setTop (mkF m 16 #[.val (.ref d), .val (.int (0 : Int32)), .val (.int ix)] [(.int (1 : Int32))])) _
      refine XS.goto X613.here hx rfl (pc0 := 16) (pc' := 20) rfl (hb hby d19_16) (by decide) (by decide) ?_
      show Steps p.tables e below (T613.setTop (mkF m 20 #[.val (.ref d), .val (.int (0 : Int32)), .val (.int ix)] [(.int (1 : Int32))])) _
      exact kq)
    obtain ⟨fs, hr, hrun, hended, hW, hsame⟩ := X613.leave (v := some (.int (nar .boolean (1 : Int32)))) (fun h => by rw [Bd.returns] at h; cases h)
    refine ⟨_, _, (by rw [← hA0]; exact G616 _ (retN X613 hx (t := .boolean) Bd.returns (by simp) (hb hby d19_20) hr)), hrun, hended, _, _, rfl, ?_, ⟨_, rfl⟩, hW, hsame.mono (by decide) (by decide)⟩
    exact ⟨(by rw [← hr0, show own_b ((fk0 ix.toNatClampNeg) = rd) = (1 : Int32) from by simp only [own_b, hc615, not_true_eq_false, not_false_eq_true, if_true, if_false, or_true, true_or, or_false, false_or, and_true, true_and, and_false, false_and, and_self, or_self]]; rfl), N0, e613⟩
  · have G617 : Go p e below A0 (T613.setTop (mkF m 20 #[.val (.ref d), .val (.int (0 : Int32)), .val (.int ix)] [(.int (0 : Int32))])) := fun tq kq => G614 tq (by
      refine XS.icmpYes X613.here hx rfl (pc0 := 12) (pc' := 19) rfl (hb hby d19_12) rfl (feq hc615).2 (by decide) (by decide) ?_
      show Steps p.tables e below (T613.setTop (mkF m 19 #[.val (.ref d), .val (.int (0 : Int32)), .val (.int ix)] [])) _
      refine XS.iconst X613.here hx rfl (hb hby d19_19) ?_
      show Steps p.tables e below (T613.setTop (mkF m 20 #[.val (.ref d), .val (.int (0 : Int32)), .val (.int ix)] [(.int (0 : Int32))])) _
      exact kq)
    obtain ⟨fs, hr, hrun, hended, hW, hsame⟩ := X613.leave (v := some (.int (nar .boolean (0 : Int32)))) (fun h => by rw [Bd.returns] at h; cases h)
    refine ⟨_, _, (by rw [← hA0]; exact G617 _ (retN X613 hx (t := .boolean) Bd.returns (by simp) (hb hby d19_20) hr)), hrun, hended, _, _, rfl, ?_, ⟨_, rfl⟩, hW, hsame.mono (by decide) (by decide)⟩
    exact ⟨(by rw [← hr0, show own_b ((fk0 ix.toNatClampNeg) = rd) = (0 : Int32) from by simp only [own_b, hc615, not_true_eq_false, not_false_eq_true, if_true, if_false, or_true, true_or, or_false, false_or, and_true, true_and, and_false, false_and, and_self, or_self]]; rfl), N0, e613⟩
def Qm1 (Z : State) (d mem pos siz mrk m0 p0 k0 m1 p1 k1 : Addr) (rd : Int32) (fsz fm0 fp0 fk0 fm1 fp1 fk1 : Nat → Int32) (r ix : Int32) (h0 : Heap) (n0 : Nat) (v : Option Value) (h : Heap) (L : List Loc) : Prop := v = some (.int r) ∧ Fr n0 L ∧ Keep h0 h [k1] ∧ Dom Z h d mem pos siz mrk m0 p0 k0 m1 p1 k1 rd (fsz) (fm0) (fp0) (fk0) (fm1) (fp1) (own_up fk1 ix.toNatClampNeg rd)
set_option maxRecDepth 65536 in
set_option maxHeartbeats 40000000 in
theorem rmM1 (l : Launch) (Z : State) (a0 : Array Value) (hw : ∀ d ∈ tables_1, d.before a0 Z = true) (ws : List Jvm.Cond) (d mem pos siz mrk m0 p0 k0 m1 p1 k1 : Addr) (rd : Int32) (fsz fm0 fp0 fk0 fm1 fp1 fk1 : Nat → Int32) (r ix : Int32) (h0 : Heap) (n0 : Nat) (Z0 : n0 ≤ h0.size) (hord : Ord n0 d mem pos siz mrk m0 p0 k0 m1 p1 k1) (hdom : Dom Z h0 d mem pos siz mrk m0 p0 k0 m1 p1 k1 rd (fsz) (fm0) (fp0) (fk0) (fm1) (fp1) (fk1)) (hp : ¬ ix < 0 ∧ ix < (2 : Int32)) (hr0 : own_b (¬ (fk1 ix.toNatClampNeg) = rd) = r) :
    MetFree l (⟨"com/example/ludarc/ludarc/engine/Domains", "mark", "(II)Z"⟩ : MethodName) (head1 (Jvm.Cond.code (⟨"com/example/ludarc/ludarc/engine/Domains", "mark", "(II)Z"⟩ : MethodName) prog_5_method_12_code 4 (some .boolean) :: ws) ({ frames := 0, cells := 0, slots := 0, locals := 0 } : Room)) (fun aa UU => aa = #[(.ref d), (.int (1 : Int32)), (.int ix)] ∧ Z.Warmed39 UU.vm ∧ UU.heap = h0) (fun _ _ _ _ _ => True) (fun _ UU oo U' => ∃ v L, oo = .returned v ∧ Qm1 Z d mem pos siz mrk m0 p0 k0 m1 p1 k1 rd fsz fm0 fp0 fk0 fm1 fp1 fk1 r ix h0 n0 v U'.heap L ∧ FrameEnd UU oo U' L ({ frames := 0, cells := 0, slots := 0, locals := 0 } : Room).cells ({ frames := 0, cells := 0, slots := 0, locals := 0 } : Room).slots) := by
  refine MetFree.of_bodySF (plainFor_of_name pn_6) hisR ?_
  intro p e s m args below meth c s₁ Bd hml0 hP hK
  obtain ⟨rfl, hZ, hh⟩ := hP
  have hx := Bd.exec
  have hby := Bd.bytes
  have hml : c.maxLocals = 4 := hml0
  have hown : s.vm.findClass "com/example/ludarc/ludarc/engine/Domains" = some m.cls := findClass_of_methodNamed Bd.named
  have hnm := (name_of_methodNamed Bd.named Bd.method).1
  have X0 : Stand p l e ({ frames := 0, cells := 0, slots := 0, locals := 0 } : Room) s m #[(.ref d), (.int (1 : Int32)), (.int ix)] below meth c s₁ [] 0 0 := Stand.of_body Bd
  have e0 : s₁.heap = h0 := by rw [← hh, Bd.state]; rfl
  have N0 := Fr.nil n0
  obtain ⟨A0, hA0⟩ : ∃ A, A = s₁.setTop (entryFrame m #[(.ref d), (.int (1 : Int32)), (.int ix)] 4) := ⟨_, rfl⟩
  have G0 : Go p e below A0 (s₁.setTop (mkF m 0 #[.val (.ref d), .val (.int (1 : Int32)), .val (.int ix), .unset] [])) := fun tq kq => by rw [hA0]; exact castTop (ef_rmM1 m d (1 : Int32) ix) kq
  obtain ⟨o0, o1, o2, o3, o4, o5, o6, o7, o8, o9, o10⟩ := hord
  obtain ⟨Ed, D0_, D1_, D2_, D3_, D4_, ⟨cmem, Amem⟩, ⟨cpos, Apos⟩, ⟨cmrk, Amrk⟩, ⟨csiz, Asiz⟩, ⟨cm0, Am0⟩, ⟨cp0, Ap0⟩, ⟨ck0, Ak0⟩, ⟨cm1, Am1⟩, ⟨cp1, Ap1⟩, ⟨ck1, Ak1⟩⟩ := hdom
  have G618 : Go p e below A0 (s₁.setTop (mkF m 1 #[.val (.ref d), .val (.int (1 : Int32)), .val (.int ix), .unset] [(.ref d)])) := fun tq kq => G0 tq (by
    refine XS.aloadN X0.here hx rfl (hb hby d18_0) rfl rfl ?_
    show Steps p.tables e below (s₁.setTop (mkF m 1 #[.val (.ref d), .val (.int (1 : Int32)), .val (.int ix), .unset] [(.ref d)])) _
    exact kq)
  obtain ⟨T619, X619, e619, st619⟩ := getF X0 hx hZ hown (host := "") (Or.inl (hw _ (List.mem_of_getElem? (i := 111) rfl))) Via.refl e0 D4_ (g := (mkF m 1 #[.val (.ref d), .val (.int (1 : Int32)), .val (.int ix), .unset] [(.ref d)])) rfl rfl (hb hby d18_1)
  have G620 : Go p e below A0 (T619.setTop (mkF m 4 #[.val (.ref d), .val (.int (1 : Int32)), .val (.int ix), .unset] [(.ref mrk)])) := fun tq kq => G618 tq (st619 _ kq)
  have G621 : Go p e below A0 (T619.setTop (mkF m 5 #[.val (.ref d), .val (.int (1 : Int32)), .val (.int ix), .unset] [(.int (1 : Int32)), (.ref mrk)])) := fun tq kq => G620 tq (by
    refine XS.iloadN X619.here hx rfl (hb hby d18_4) rfl ?_
    show Steps p.tables e below (T619.setTop (mkF m 5 #[.val (.ref d), .val (.int (1 : Int32)), .val (.int ix), .unset] [(.int (1 : Int32)), (.ref mrk)])) _
    exact kq)
  obtain ⟨cl622, Ar622, q622, S622, M622, H622, Gf622⟩ := id Amrk
  have hi623 : ¬ ((1 : Int32) < 0 ∨ cl622.slots.size ≤ ((1 : Int32)).toNatClampNeg) := (inb_of S622 ⟨by decide, by decide⟩)
  have G624 : Go p e below A0 (T619.setTop (mkF m 7 #[.val (.ref d), .val (.int (1 : Int32)), .val (.int ix), .unset] [(.int ix), (.ref k1)])) := fun tq kq => G621 tq (by
    refine X619.aaload hx (j := (1 : Int32)) (v := (.ref k1)) (by rw [e619]; exact Ar622.1) (State.isArrayOf_alike hZ.alike Ar622.2.1) rfl Ar622.2.2 hi623 (H622.at hi623 rfl) (g := (mkF m 5 #[.val (.ref d), .val (.int (1 : Int32)), .val (.int ix), .unset] [(.int (1 : Int32)), (.ref mrk)])) rfl rfl (hb hby d18_5) _ ?_
    show Steps p.tables e below (T619.setTop (mkF m 6 #[.val (.ref d), .val (.int (1 : Int32)), .val (.int ix), .unset] [(.ref k1)])) _
    refine XS.iloadN X619.here hx rfl (hb hby d18_6) rfl ?_
    show Steps p.tables e below (T619.setTop (mkF m 7 #[.val (.ref d), .val (.int (1 : Int32)), .val (.int ix), .unset] [(.int ix), (.ref k1)])) _
    exact kq)
  obtain ⟨cl625, Ar625, q625, S625, M625, H625⟩ := id Ak1
  have hi626 : ¬ (ix < 0 ∨ cl625.slots.size ≤ (ix).toNatClampNeg) := (inb_of S625 hp)
  have G627 : Go p e below A0 (T619.setTop (mkF m 9 #[.val (.ref d), .val (.int (1 : Int32)), .val (.int ix), .unset] [(.ref d), (.int (fk1 (ix).toNatClampNeg))])) := fun tq kq => G624 tq (by
    refine X619.iaload hx (j := ix) (v := (.int (fk1 (ix).toNatClampNeg))) (by rw [e619]; exact Ar625.1) (State.isArrayOf_alike hZ.alike Ar625.2.1) Ar625.2.2 hi626 ((H625 _ (S625 ▸ Nat.lt_of_not_le fun y => hi626 (Or.inr y))).trans (congrArg some rfl)) (g := (mkF m 7 #[.val (.ref d), .val (.int (1 : Int32)), .val (.int ix), .unset] [(.int ix), (.ref k1)])) rfl rfl (hb hby d18_7) _ ?_
    show Steps p.tables e below (T619.setTop (mkF m 8 #[.val (.ref d), .val (.int (1 : Int32)), .val (.int ix), .unset] [(.int (fk1 (ix).toNatClampNeg))])) _
    refine XS.aloadN X619.here hx rfl (hb hby d18_8) rfl rfl ?_
    show Steps p.tables e below (T619.setTop (mkF m 9 #[.val (.ref d), .val (.int (1 : Int32)), .val (.int ix), .unset] [(.ref d), (.int (fk1 (ix).toNatClampNeg))])) _
    exact kq)
  obtain ⟨T628, X628, e628, st628⟩ := getF X619 hx hZ hown (host := "") (Or.inl (hw _ (List.mem_of_getElem? (i := 92) rfl))) Via.refl e619 D0_ (g := (mkF m 9 #[.val (.ref d), .val (.int (1 : Int32)), .val (.int ix), .unset] [(.ref d), (.int (fk1 (ix).toNatClampNeg))])) rfl rfl (hb hby d18_9)
  have G629 : Go p e below A0 (T628.setTop (mkF m 12 #[.val (.ref d), .val (.int (1 : Int32)), .val (.int ix), .unset] [(.int rd), (.int (fk1 (ix).toNatClampNeg))])) := fun tq kq => G627 tq (st628 _ kq)
  obtain ⟨fr, hG630, G630⟩ : ∃ (fr : Int32), (fr = own_b (¬ (fk1 ix.toNatClampNeg) = rd)) ∧ Go p e below A0 (T628.setTop (mkF m 20 #[.val (.ref d), .val (.int (1 : Int32)), .val (.int ix), .unset] [(.int fr)])) := by
    by_cases hc631 : (fk1 (ix).toNatClampNeg) = rd
    · have G632 : Go p e below A0 (T628.setTop (mkF m 20 #[.val (.ref d), .val (.int (1 : Int32)), .val (.int ix), .unset] [(.int (0 : Int32))])) := fun tq kq => G629 tq (by
        refine XS.icmpYes X628.here hx rfl (pc0 := 12) (pc' := 19) rfl (hb hby d18_12) rfl (teq hc631).1 (by decide) (by decide) ?_
        show Steps p.tables e below (T628.setTop (mkF m 19 #[.val (.ref d), .val (.int (1 : Int32)), .val (.int ix), .unset] [])) _
        refine XS.iconst X628.here hx rfl (hb hby d18_19) ?_
        show Steps p.tables e below (T628.setTop (mkF m 20 #[.val (.ref d), .val (.int (1 : Int32)), .val (.int ix), .unset] [(.int (0 : Int32))])) _
        exact kq)
      exact ⟨(0 : Int32), (by simp only [own_b, hc631, not_true_eq_false, not_false_eq_true, if_true, if_false, or_true, true_or, or_false, false_or, and_true, true_and, and_false, false_and, and_self, or_self]), G632⟩
    · have G633 : Go p e below A0 (T628.setTop (mkF m 20 #[.val (.ref d), .val (.int (1 : Int32)), .val (.int ix), .unset] [(.int (1 : Int32))])) := fun tq kq => G629 tq (by
        refine XS.icmpNo X628.here hx rfl (hb hby d18_12) rfl (feq hc631).1 ?_
        show Steps p.tables e below (T628.setTop (mkF m 15 #[.val (.ref d), .val (.int (1 : Int32)), .val (.int ix), .unset] [])) _
        refine XS.iconst X628.here hx rfl (hb hby d18_15) ?_
        show Steps p.tables e below (T628.setTop (mkF m 16 #[.val (.ref d), .val (.int (1 : Int32)), .val (.int ix), .unset] [(.int (1 : Int32))])) _
        refine XS.goto X628.here hx rfl (pc0 := 16) (pc' := 20) rfl (hb hby d18_16) (by decide) (by decide) ?_
        show Steps p.tables e below (T628.setTop (mkF m 20 #[.val (.ref d), .val (.int (1 : Int32)), .val (.int ix), .unset] [(.int (1 : Int32))])) _
        exact kq)
      exact ⟨(1 : Int32), (by simp only [own_b, hc631, not_true_eq_false, not_false_eq_true, if_true, if_false, or_true, true_or, or_false, false_or, and_true, true_and, and_false, false_and, and_self, or_self]), G633⟩
  subst hG630
  have G634 : Go p e below A0 (T628.setTop (mkF m 22 #[.val (.ref d), .val (.int (1 : Int32)), .val (.int ix), .val (.int (own_b (¬ (fk1 ix.toNatClampNeg) = rd)))] [(.ref d)])) := fun tq kq => G630 tq (by
    refine XS.istoreN X628.here hx rfl (hb hby d18_20) rfl (l' := #[.val (.ref d), .val (.int (1 : Int32)), .val (.int ix), .val (.int (own_b (¬ (fk1 ix.toNatClampNeg) = rd)))]) rfl ?_
    show Steps p.tables e below (T628.setTop (mkF m 21 #[.val (.ref d), .val (.int (1 : Int32)), .val (.int ix), .val (.int (own_b (¬ (fk1 ix.toNatClampNeg) = rd)))] [])) _
    refine XS.aloadN X628.here hx rfl (hb hby d18_21) rfl rfl ?_
    show Steps p.tables e below (T628.setTop (mkF m 22 #[.val (.ref d), .val (.int (1 : Int32)), .val (.int ix), .val (.int (own_b (¬ (fk1 ix.toNatClampNeg) = rd)))] [(.ref d)])) _
    exact kq)
  obtain ⟨T635, X635, e635, st635⟩ := getF X628 hx hZ hown (host := "") (Or.inl (hw _ (List.mem_of_getElem? (i := 111) rfl))) Via.refl e628 D4_ (g := (mkF m 22 #[.val (.ref d), .val (.int (1 : Int32)), .val (.int ix), .val (.int (own_b (¬ (fk1 ix.toNatClampNeg) = rd)))] [(.ref d)])) rfl rfl (hb hby d18_22)
  have G636 : Go p e below A0 (T635.setTop (mkF m 25 #[.val (.ref d), .val (.int (1 : Int32)), .val (.int ix), .val (.int (own_b (¬ (fk1 ix.toNatClampNeg) = rd)))] [(.ref mrk)])) := fun tq kq => G634 tq (st635 _ kq)
  have G637 : Go p e below A0 (T635.setTop (mkF m 26 #[.val (.ref d), .val (.int (1 : Int32)), .val (.int ix), .val (.int (own_b (¬ (fk1 ix.toNatClampNeg) = rd)))] [(.int (1 : Int32)), (.ref mrk)])) := fun tq kq => G636 tq (by
    refine XS.iloadN X635.here hx rfl (hb hby d18_25) rfl ?_
    show Steps p.tables e below (T635.setTop (mkF m 26 #[.val (.ref d), .val (.int (1 : Int32)), .val (.int ix), .val (.int (own_b (¬ (fk1 ix.toNatClampNeg) = rd)))] [(.int (1 : Int32)), (.ref mrk)])) _
    exact kq)
  obtain ⟨cl638, Ar638, q638, S638, M638, H638, Gf638⟩ := id Amrk
  have hi639 : ¬ ((1 : Int32) < 0 ∨ cl638.slots.size ≤ ((1 : Int32)).toNatClampNeg) := (inb_of S638 ⟨by decide, by decide⟩)
  have G640 : Go p e below A0 (T635.setTop (mkF m 29 #[.val (.ref d), .val (.int (1 : Int32)), .val (.int ix), .val (.int (own_b (¬ (fk1 ix.toNatClampNeg) = rd)))] [(.ref d), (.int ix), (.ref k1)])) := fun tq kq => G637 tq (by
    refine X635.aaload hx (j := (1 : Int32)) (v := (.ref k1)) (by rw [e635]; exact Ar638.1) (State.isArrayOf_alike hZ.alike Ar638.2.1) rfl Ar638.2.2 hi639 (H638.at hi639 rfl) (g := (mkF m 26 #[.val (.ref d), .val (.int (1 : Int32)), .val (.int ix), .val (.int (own_b (¬ (fk1 ix.toNatClampNeg) = rd)))] [(.int (1 : Int32)), (.ref mrk)])) rfl rfl (hb hby d18_26) _ ?_
    show Steps p.tables e below (T635.setTop (mkF m 27 #[.val (.ref d), .val (.int (1 : Int32)), .val (.int ix), .val (.int (own_b (¬ (fk1 ix.toNatClampNeg) = rd)))] [(.ref k1)])) _
    refine XS.iloadN X635.here hx rfl (hb hby d18_27) rfl ?_
    show Steps p.tables e below (T635.setTop (mkF m 28 #[.val (.ref d), .val (.int (1 : Int32)), .val (.int ix), .val (.int (own_b (¬ (fk1 ix.toNatClampNeg) = rd)))] [(.int ix), (.ref k1)])) _
    refine XS.aloadN X635.here hx rfl (hb hby d18_28) rfl rfl ?_
    show Steps p.tables e below (T635.setTop (mkF m 29 #[.val (.ref d), .val (.int (1 : Int32)), .val (.int ix), .val (.int (own_b (¬ (fk1 ix.toNatClampNeg) = rd)))] [(.ref d), (.int ix), (.ref k1)])) _
    exact kq)
  obtain ⟨T641, X641, e641, st641⟩ := getF X635 hx hZ hown (host := "") (Or.inl (hw _ (List.mem_of_getElem? (i := 92) rfl))) Via.refl e635 D0_ (g := (mkF m 29 #[.val (.ref d), .val (.int (1 : Int32)), .val (.int ix), .val (.int (own_b (¬ (fk1 ix.toNatClampNeg) = rd)))] [(.ref d), (.int ix), (.ref k1)])) rfl rfl (hb hby d18_29)
  have G642 : Go p e below A0 (T641.setTop (mkF m 32 #[.val (.ref d), .val (.int (1 : Int32)), .val (.int ix), .val (.int (own_b (¬ (fk1 ix.toNatClampNeg) = rd)))] [(.int rd), (.int ix), (.ref k1)])) := fun tq kq => G640 tq (st641 _ kq)
  obtain ⟨cl643, Ar643, q643, S643, M643, H643⟩ := id Ak1
  have hi644 : ¬ (ix < 0 ∨ cl643.slots.size ≤ (ix).toNatClampNeg) := (inb_of S643 hp)
  obtain ⟨T645, h645, X645, e645, W645, st645⟩ := stI X641 hx hZ e641 Ar643 (j := ix) hi644 (g := (mkF m 32 #[.val (.ref d), .val (.int (1 : Int32)), .val (.int ix), .val (.int (own_b (¬ (fk1 ix.toNatClampNeg) = rd)))] [(.int rd), (.int ix), (.ref k1)])) rfl rfl (hb hby d18_32)
  have N645 := Fr.snoc X645 N0 (show @LE.le Nat _ n0 k1 by omega)
  have V645 : Af Z h645 k1 ck1 .int (2 : Int32) (fun i => .int ((own_up fk1 (ix).toNatClampNeg rd) i)) := (Af.set Ar643 q643 S643 M643 H643 W645 hi644).fn (fun j _ => by show (if j = _ then _ else _) = Value.int (if j = _ then _ else _); split <;> rfl)
  have G646 : Go p e below A0 (T645.setTop (mkF m 33 #[.val (.ref d), .val (.int (1 : Int32)), .val (.int ix), .val (.int (own_b (¬ (fk1 ix.toNatClampNeg) = rd)))] [])) := fun tq kq => G642 tq (st645 _ kq)
  have G647 : Go p e below A0 (T645.setTop (mkF m 34 #[.val (.ref d), .val (.int (1 : Int32)), .val (.int ix), .val (.int (own_b (¬ (fk1 ix.toNatClampNeg) = rd)))] [(.int (own_b (¬ (fk1 ix.toNatClampNeg) = rd)))])) := fun tq kq => G646 tq (by
    refine XS.iloadN X645.here hx rfl (hb hby d18_33) rfl ?_
    show Steps p.tables e below (T645.setTop (mkF m 34 #[.val (.ref d), .val (.int (1 : Int32)), .val (.int ix), .val (.int (own_b (¬ (fk1 ix.toNatClampNeg) = rd)))] [(.int (own_b (¬ (fk1 ix.toNatClampNeg) = rd)))])) _
    exact kq)
  have f648 := (D0_.other W645 (Or.inl (show @Ne Nat d k1 by omega)))
  have f649 := (D1_.other W645 (Or.inl (show @Ne Nat d k1 by omega)))
  have f650 := (D2_.other W645 (Or.inl (show @Ne Nat d k1 by omega)))
  have f651 := (D3_.other W645 (Or.inl (show @Ne Nat d k1 by omega)))
  have f652 := (D4_.other W645 (Or.inl (show @Ne Nat d k1 by omega)))
  have f653 := (Ed.wr W645)
  have f654 := (Amem.other W645 (show @Ne Nat mem k1 by omega))
  have f655 := (Apos.other W645 (show @Ne Nat pos k1 by omega))
  have f656 := (Asiz.other W645 (show @Ne Nat siz k1 by omega))
  have f657 := (Amrk.other W645 (show @Ne Nat mrk k1 by omega))
  have f658 := (Am0.other W645 (show @Ne Nat m0 k1 by omega))
  have f659 := (Ap0.other W645 (show @Ne Nat p0 k1 by omega))
  have f660 := (Ak0.other W645 (show @Ne Nat k0 k1 by omega))
  have f661 := (Am1.other W645 (show @Ne Nat m1 k1 by omega))
  have f662 := (Ap1.other W645 (show @Ne Nat p1 k1 by omega))
  obtain ⟨fs, hr, hrun, hended, hW, hsame⟩ := X645.leave (v := some (.int (nar .boolean (own_b (¬ (fk1 ix.toNatClampNeg) = rd))))) (fun h => by rw [Bd.returns] at h; cases h)
  refine ⟨_, _, (by rw [← hA0]; exact G647 _ (retN X645 hx (t := .boolean) Bd.returns (by simp) (hb hby d18_34) hr)), hrun, hended, _, _, rfl, ?_, ⟨_, rfl⟩, hW, hsame.mono (by decide) (by decide)⟩
  show Qm1 Z d mem pos siz mrk m0 p0 k0 m1 p1 k1 rd fsz fm0 fp0 fk0 fm1 fp1 fk1 r ix h0 n0 _ T645.heap _
  rw [e645]
  exact ⟨(by rw [own_nb, hr0]), N645, ((Keep.refl h0 [k1]).wr W645 (Or.inl (List.mem_of_getElem? (i := 0) rfl))), ⟨f653, f648, f649, f650, f651, f652, ⟨_, f654⟩, ⟨_, f655⟩, ⟨_, f657⟩, ⟨_, f656⟩, ⟨_, f658⟩, ⟨_, f659⟩, ⟨_, f660⟩, ⟨_, f661⟩, ⟨_, f662⟩, ⟨_, V645⟩⟩⟩
set_option maxRecDepth 65536 in
set_option maxHeartbeats 40000000 in
theorem rmI1 (l : Launch) (Z : State) (a0 : Array Value) (hw : ∀ d ∈ tables_1, d.before a0 Z = true) (ws : List Jvm.Cond) (d mem pos siz mrk m0 p0 k0 m1 p1 k1 : Addr) (rd : Int32) (fsz fm0 fp0 fk0 fm1 fp1 fk1 : Nat → Int32) (r ix : Int32) (h0 : Heap) (n0 : Nat) (Z0 : n0 ≤ h0.size) (hord : Ord n0 d mem pos siz mrk m0 p0 k0 m1 p1 k1) (hdom : Dom Z h0 d mem pos siz mrk m0 p0 k0 m1 p1 k1 rd (fsz) (fm0) (fp0) (fk0) (fm1) (fp1) (fk1)) (hp : ¬ ix < 0 ∧ ix < (2 : Int32)) (hr0 : own_b ((fk1 ix.toNatClampNeg) = rd) = r) :
    MetFree l (⟨"com/example/ludarc/ludarc/engine/Domains", "isMarked", "(II)Z"⟩ : MethodName) (head1 (Jvm.Cond.code (⟨"com/example/ludarc/ludarc/engine/Domains", "isMarked", "(II)Z"⟩ : MethodName) prog_5_method_13_code 3 (some .boolean) :: ws) ({ frames := 0, cells := 0, slots := 0, locals := 0 } : Room)) (fun aa UU => aa = #[(.ref d), (.int (1 : Int32)), (.int ix)] ∧ Z.Warmed39 UU.vm ∧ UU.heap = h0) (fun _ _ _ _ _ => True) (fun _ UU oo U' => ∃ v L, oo = .returned v ∧ Qr (.int r) h0 n0 v U'.heap L ∧ FrameEnd UU oo U' L ({ frames := 0, cells := 0, slots := 0, locals := 0 } : Room).cells ({ frames := 0, cells := 0, slots := 0, locals := 0 } : Room).slots) := by
  refine MetFree.of_bodySF (plainFor_of_name pn_6) hisR ?_
  intro p e s m args below meth c s₁ Bd hml0 hP hK
  obtain ⟨rfl, hZ, hh⟩ := hP
  have hx := Bd.exec
  have hby := Bd.bytes
  have hml : c.maxLocals = 3 := hml0
  have hown : s.vm.findClass "com/example/ludarc/ludarc/engine/Domains" = some m.cls := findClass_of_methodNamed Bd.named
  have hnm := (name_of_methodNamed Bd.named Bd.method).1
  have X0 : Stand p l e ({ frames := 0, cells := 0, slots := 0, locals := 0 } : Room) s m #[(.ref d), (.int (1 : Int32)), (.int ix)] below meth c s₁ [] 0 0 := Stand.of_body Bd
  have e0 : s₁.heap = h0 := by rw [← hh, Bd.state]; rfl
  have N0 := Fr.nil n0
  obtain ⟨A0, hA0⟩ : ∃ A, A = s₁.setTop (entryFrame m #[(.ref d), (.int (1 : Int32)), (.int ix)] 3) := ⟨_, rfl⟩
  have G0 : Go p e below A0 (s₁.setTop (mkF m 0 #[.val (.ref d), .val (.int (1 : Int32)), .val (.int ix)] [])) := fun tq kq => by rw [hA0]; exact castTop (ef_rmI1 m d (1 : Int32) ix) kq
  obtain ⟨o0, o1, o2, o3, o4, o5, o6, o7, o8, o9, o10⟩ := hord
  obtain ⟨Ed, D0_, D1_, D2_, D3_, D4_, ⟨cmem, Amem⟩, ⟨cpos, Apos⟩, ⟨cmrk, Amrk⟩, ⟨csiz, Asiz⟩, ⟨cm0, Am0⟩, ⟨cp0, Ap0⟩, ⟨ck0, Ak0⟩, ⟨cm1, Am1⟩, ⟨cp1, Ap1⟩, ⟨ck1, Ak1⟩⟩ := hdom
  have G663 : Go p e below A0 (s₁.setTop (mkF m 1 #[.val (.ref d), .val (.int (1 : Int32)), .val (.int ix)] [(.ref d)])) := fun tq kq => G0 tq (by
    refine XS.aloadN X0.here hx rfl (hb hby d19_0) rfl rfl ?_
    show Steps p.tables e below (s₁.setTop (mkF m 1 #[.val (.ref d), .val (.int (1 : Int32)), .val (.int ix)] [(.ref d)])) _
    exact kq)
  obtain ⟨T664, X664, e664, st664⟩ := getF X0 hx hZ hown (host := "") (Or.inl (hw _ (List.mem_of_getElem? (i := 111) rfl))) Via.refl e0 D4_ (g := (mkF m 1 #[.val (.ref d), .val (.int (1 : Int32)), .val (.int ix)] [(.ref d)])) rfl rfl (hb hby d19_1)
  have G665 : Go p e below A0 (T664.setTop (mkF m 4 #[.val (.ref d), .val (.int (1 : Int32)), .val (.int ix)] [(.ref mrk)])) := fun tq kq => G663 tq (st664 _ kq)
  have G666 : Go p e below A0 (T664.setTop (mkF m 5 #[.val (.ref d), .val (.int (1 : Int32)), .val (.int ix)] [(.int (1 : Int32)), (.ref mrk)])) := fun tq kq => G665 tq (by
    refine XS.iloadN X664.here hx rfl (hb hby d19_4) rfl ?_
    show Steps p.tables e below (T664.setTop (mkF m 5 #[.val (.ref d), .val (.int (1 : Int32)), .val (.int ix)] [(.int (1 : Int32)), (.ref mrk)])) _
    exact kq)
  obtain ⟨cl667, Ar667, q667, S667, M667, H667, Gf667⟩ := id Amrk
  have hi668 : ¬ ((1 : Int32) < 0 ∨ cl667.slots.size ≤ ((1 : Int32)).toNatClampNeg) := (inb_of S667 ⟨by decide, by decide⟩)
  have G669 : Go p e below A0 (T664.setTop (mkF m 7 #[.val (.ref d), .val (.int (1 : Int32)), .val (.int ix)] [(.int ix), (.ref k1)])) := fun tq kq => G666 tq (by
    refine X664.aaload hx (j := (1 : Int32)) (v := (.ref k1)) (by rw [e664]; exact Ar667.1) (State.isArrayOf_alike hZ.alike Ar667.2.1) rfl Ar667.2.2 hi668 (H667.at hi668 rfl) (g := (mkF m 5 #[.val (.ref d), .val (.int (1 : Int32)), .val (.int ix)] [(.int (1 : Int32)), (.ref mrk)])) rfl rfl (hb hby d19_5) _ ?_
    show Steps p.tables e below (T664.setTop (mkF m 6 #[.val (.ref d), .val (.int (1 : Int32)), .val (.int ix)] [(.ref k1)])) _
    refine XS.iloadN X664.here hx rfl (hb hby d19_6) rfl ?_
    show Steps p.tables e below (T664.setTop (mkF m 7 #[.val (.ref d), .val (.int (1 : Int32)), .val (.int ix)] [(.int ix), (.ref k1)])) _
    exact kq)
  obtain ⟨cl670, Ar670, q670, S670, M670, H670⟩ := id Ak1
  have hi671 : ¬ (ix < 0 ∨ cl670.slots.size ≤ (ix).toNatClampNeg) := (inb_of S670 hp)
  have G672 : Go p e below A0 (T664.setTop (mkF m 9 #[.val (.ref d), .val (.int (1 : Int32)), .val (.int ix)] [(.ref d), (.int (fk1 (ix).toNatClampNeg))])) := fun tq kq => G669 tq (by
    refine X664.iaload hx (j := ix) (v := (.int (fk1 (ix).toNatClampNeg))) (by rw [e664]; exact Ar670.1) (State.isArrayOf_alike hZ.alike Ar670.2.1) Ar670.2.2 hi671 ((H670 _ (S670 ▸ Nat.lt_of_not_le fun y => hi671 (Or.inr y))).trans (congrArg some rfl)) (g := (mkF m 7 #[.val (.ref d), .val (.int (1 : Int32)), .val (.int ix)] [(.int ix), (.ref k1)])) rfl rfl (hb hby d19_7) _ ?_
    show Steps p.tables e below (T664.setTop (mkF m 8 #[.val (.ref d), .val (.int (1 : Int32)), .val (.int ix)] [(.int (fk1 (ix).toNatClampNeg))])) _
    refine XS.aloadN X664.here hx rfl (hb hby d19_8) rfl rfl ?_
    show Steps p.tables e below (T664.setTop (mkF m 9 #[.val (.ref d), .val (.int (1 : Int32)), .val (.int ix)] [(.ref d), (.int (fk1 (ix).toNatClampNeg))])) _
    exact kq)
  obtain ⟨T673, X673, e673, st673⟩ := getF X664 hx hZ hown (host := "") (Or.inl (hw _ (List.mem_of_getElem? (i := 92) rfl))) Via.refl e664 D0_ (g := (mkF m 9 #[.val (.ref d), .val (.int (1 : Int32)), .val (.int ix)] [(.ref d), (.int (fk1 (ix).toNatClampNeg))])) rfl rfl (hb hby d19_9)
  have G674 : Go p e below A0 (T673.setTop (mkF m 12 #[.val (.ref d), .val (.int (1 : Int32)), .val (.int ix)] [(.int rd), (.int (fk1 (ix).toNatClampNeg))])) := fun tq kq => G672 tq (st673 _ kq)
  by_cases hc675 : (fk1 (ix).toNatClampNeg) = rd
  · have G676 : Go p e below A0 (T673.setTop (mkF m 20 #[.val (.ref d), .val (.int (1 : Int32)), .val (.int ix)] [(.int (1 : Int32))])) := fun tq kq => G674 tq (by
      refine XS.icmpNo X673.here hx rfl (hb hby d19_12) rfl (teq hc675).2 ?_
      show Steps p.tables e below (T673.setTop (mkF m 15 #[.val (.ref d), .val (.int (1 : Int32)), .val (.int ix)] [])) _
      refine XS.iconst X673.here hx rfl (hb hby d19_15) ?_
      show Steps p.tables e below (T673.setTop (mkF m 16 #[.val (.ref d), .val (.int (1 : Int32)), .val (.int ix)] [(.int (1 : Int32))])) _
      refine XS.goto X673.here hx rfl (pc0 := 16) (pc' := 20) rfl (hb hby d19_16) (by decide) (by decide) ?_
      show Steps p.tables e below (T673.setTop (mkF m 20 #[.val (.ref d), .val (.int (1 : Int32)), .val (.int ix)] [(.int (1 : Int32))])) _
      exact kq)
    obtain ⟨fs, hr, hrun, hended, hW, hsame⟩ := X673.leave (v := some (.int (nar .boolean (1 : Int32)))) (fun h => by rw [Bd.returns] at h; cases h)
    refine ⟨_, _, (by rw [← hA0]; exact G676 _ (retN X673 hx (t := .boolean) Bd.returns (by simp) (hb hby d19_20) hr)), hrun, hended, _, _, rfl, ?_, ⟨_, rfl⟩, hW, hsame.mono (by decide) (by decide)⟩
    exact ⟨(by rw [← hr0, show own_b ((fk1 ix.toNatClampNeg) = rd) = (1 : Int32) from by simp only [own_b, hc675, not_true_eq_false, not_false_eq_true, if_true, if_false, or_true, true_or, or_false, false_or, and_true, true_and, and_false, false_and, and_self, or_self]]; rfl), N0, e673⟩
  · have G677 : Go p e below A0 (T673.setTop (mkF m 20 #[.val (.ref d), .val (.int (1 : Int32)), .val (.int ix)] [(.int (0 : Int32))])) := fun tq kq => G674 tq (by
      refine XS.icmpYes X673.here hx rfl (pc0 := 12) (pc' := 19) rfl (hb hby d19_12) rfl (feq hc675).2 (by decide) (by decide) ?_
      show Steps p.tables e below (T673.setTop (mkF m 19 #[.val (.ref d), .val (.int (1 : Int32)), .val (.int ix)] [])) _
      refine XS.iconst X673.here hx rfl (hb hby d19_19) ?_
      show Steps p.tables e below (T673.setTop (mkF m 20 #[.val (.ref d), .val (.int (1 : Int32)), .val (.int ix)] [(.int (0 : Int32))])) _
      exact kq)
    obtain ⟨fs, hr, hrun, hended, hW, hsame⟩ := X673.leave (v := some (.int (nar .boolean (0 : Int32)))) (fun h => by rw [Bd.returns] at h; cases h)
    refine ⟨_, _, (by rw [← hA0]; exact G677 _ (retN X673 hx (t := .boolean) Bd.returns (by simp) (hb hby d19_20) hr)), hrun, hended, _, _, rfl, ?_, ⟨_, rfl⟩, hW, hsame.mono (by decide) (by decide)⟩
    exact ⟨(by rw [← hr0, show own_b ((fk1 ix.toNatClampNeg) = rd) = (0 : Int32) from by simp only [own_b, hc675, not_true_eq_false, not_false_eq_true, if_true, if_false, or_true, true_or, or_false, false_or, and_true, true_and, and_false, false_and, and_self, or_self]]; rfl), N0, e673⟩
def Qcm (Z : State) (d mem pos siz mrk m0 p0 k0 m1 p1 k1 : Addr) (fsz fm0 fp0 fk0 fm1 fp1 fk1 : Nat → Int32) (h0 : Heap) (n0 : Nat) (v : Option Value) (h : Heap) (L : List Loc) : Prop := v = none ∧ Fr n0 L ∧ Keep h0 h [d] ∧ Dom Z h d mem pos siz mrk m0 p0 k0 m1 p1 k1 (2 : Int32) (fsz) (fm0) (fp0) (fk0) (fm1) (fp1) (fk1)
set_option maxRecDepth 65536 in
set_option maxHeartbeats 40000000 in
theorem rm20 (l : Launch) (Z : State) (a0 : Array Value) (hw : ∀ d ∈ tables_1, d.before a0 Z = true) (ws : List Jvm.Cond) (d mem pos siz mrk m0 p0 k0 m1 p1 k1 : Addr) (fsz fm0 fp0 fk0 fm1 fp1 fk1 : Nat → Int32) (h0 : Heap) (n0 : Nat) (Z0 : n0 ≤ h0.size) (hord : Ord n0 d mem pos siz mrk m0 p0 k0 m1 p1 k1) (hdom : Dom Z h0 d mem pos siz mrk m0 p0 k0 m1 p1 k1 (1 : Int32) (fsz) (fm0) (fp0) (fk0) (fm1) (fp1) (fk1)) :
    MetFree l (⟨"com/example/ludarc/ludarc/engine/Domains", "clearMarks", "()V"⟩ : MethodName) (head1 (Jvm.Cond.code (⟨"com/example/ludarc/ludarc/engine/Domains", "clearMarks", "()V"⟩ : MethodName) prog_5_method_11_code 5 none :: ws) ({ frames := 0, cells := 0, slots := 0, locals := 0 } : Room)) (fun aa UU => aa = #[(.ref d)] ∧ Z.Warmed39 UU.vm ∧ UU.heap = h0) (fun _ _ _ _ _ => True) (fun _ UU oo U' => ∃ v L, oo = .returned v ∧ Qcm Z d mem pos siz mrk m0 p0 k0 m1 p1 k1 fsz fm0 fp0 fk0 fm1 fp1 fk1 h0 n0 v U'.heap L ∧ FrameEnd UU oo U' L ({ frames := 0, cells := 0, slots := 0, locals := 0 } : Room).cells ({ frames := 0, cells := 0, slots := 0, locals := 0 } : Room).slots) := by
  refine MetFree.of_bodySF (plainFor_of_name pn_6) hisR ?_
  intro p e s m args below meth c s₁ Bd hml0 hP hK
  obtain ⟨rfl, hZ, hh⟩ := hP
  have hx := Bd.exec
  have hby := Bd.bytes
  have hml : c.maxLocals = 5 := hml0
  have hown : s.vm.findClass "com/example/ludarc/ludarc/engine/Domains" = some m.cls := findClass_of_methodNamed Bd.named
  have hnm := (name_of_methodNamed Bd.named Bd.method).1
  have X0 : Stand p l e ({ frames := 0, cells := 0, slots := 0, locals := 0 } : Room) s m #[(.ref d)] below meth c s₁ [] 0 0 := Stand.of_body Bd
  have e0 : s₁.heap = h0 := by rw [← hh, Bd.state]; rfl
  have N0 := Fr.nil n0
  obtain ⟨A0, hA0⟩ : ∃ A, A = s₁.setTop (entryFrame m #[(.ref d)] 5) := ⟨_, rfl⟩
  have G0 : Go p e below A0 (s₁.setTop (mkF m 0 #[.val (.ref d), .unset, .unset, .unset, .unset] [])) := fun tq kq => by rw [hA0]; exact castTop (ef_rm20 m d) kq
  obtain ⟨o0, o1, o2, o3, o4, o5, o6, o7, o8, o9, o10⟩ := hord
  obtain ⟨Ed, D0_, D1_, D2_, D3_, D4_, ⟨cmem, Amem⟩, ⟨cpos, Apos⟩, ⟨cmrk, Amrk⟩, ⟨csiz, Asiz⟩, ⟨cm0, Am0⟩, ⟨cp0, Ap0⟩, ⟨ck0, Ak0⟩, ⟨cm1, Am1⟩, ⟨cp1, Ap1⟩, ⟨ck1, Ak1⟩⟩ := hdom
  have G678 : Go p e below A0 (s₁.setTop (mkF m 1 #[.val (.ref d), .unset, .unset, .unset, .unset] [(.ref d)])) := fun tq kq => G0 tq (by
    refine XS.aloadN X0.here hx rfl (hb hby d20_0) rfl rfl ?_
    show Steps p.tables e below (s₁.setTop (mkF m 1 #[.val (.ref d), .unset, .unset, .unset, .unset] [(.ref d)])) _
    exact kq)
  obtain ⟨T679, X679, e679, st679⟩ := getF X0 hx hZ hown (host := "") (Or.inl (hw _ (List.mem_of_getElem? (i := 92) rfl))) Via.refl e0 D0_ (g := (mkF m 1 #[.val (.ref d), .unset, .unset, .unset, .unset] [(.ref d)])) rfl rfl (hb hby d20_1)
  have G680 : Go p e below A0 (T679.setTop (mkF m 4 #[.val (.ref d), .unset, .unset, .unset, .unset] [(.int (1 : Int32))])) := fun tq kq => G678 tq (st679 _ kq)
  have G681 : Go p e below A0 (T679.setTop (mkF m 48 #[.val (.ref d), .unset, .unset, .unset, .unset] [(.ref d), (.ref d)])) := fun tq kq => G680 tq (by
    refine X679.ldcInt hx hown (mvT hZ (hw _ (List.mem_of_getElem? (i := 157) rfl))) (g := (mkF m 4 #[.val (.ref d), .unset, .unset, .unset, .unset] [(.int (1 : Int32))])) rfl (hb hby d20_4) _ ?_
    show Steps p.tables e below (T679.setTop (mkF m 6 #[.val (.ref d), .unset, .unset, .unset, .unset] [(.int (2147483647 : Int32)), (.int (1 : Int32))])) _
    refine XS.icmpYes X679.here hx rfl (pc0 := 6) (pc' := 46) rfl (hb hby d20_6) rfl (by decide) (by decide) (by decide) ?_
    show Steps p.tables e below (T679.setTop (mkF m 46 #[.val (.ref d), .unset, .unset, .unset, .unset] [])) _
    refine XS.aloadN X679.here hx rfl (hb hby d20_46) rfl rfl ?_
    show Steps p.tables e below (T679.setTop (mkF m 47 #[.val (.ref d), .unset, .unset, .unset, .unset] [(.ref d)])) _
    refine XS.dup X679.here hx rfl (hb hby d20_47) rfl rfl ?_
    show Steps p.tables e below (T679.setTop (mkF m 48 #[.val (.ref d), .unset, .unset, .unset, .unset] [(.ref d), (.ref d)])) _
    exact kq)
  obtain ⟨T682, X682, e682, st682⟩ := getF X679 hx hZ hown (host := "") (Or.inl (hw _ (List.mem_of_getElem? (i := 92) rfl))) Via.refl e679 D0_ (g := (mkF m 48 #[.val (.ref d), .unset, .unset, .unset, .unset] [(.ref d), (.ref d)])) rfl rfl (hb hby d20_48)
  have G683 : Go p e below A0 (T682.setTop (mkF m 51 #[.val (.ref d), .unset, .unset, .unset, .unset] [(.int (1 : Int32)), (.ref d)])) := fun tq kq => G681 tq (st682 _ kq)
  have G684 : Go p e below A0 (T682.setTop (mkF m 53 #[.val (.ref d), .unset, .unset, .unset, .unset] [(.int (2 : Int32)), (.ref d)])) := fun tq kq => G683 tq (by
    refine XS.iconst X682.here hx rfl (hb hby d20_51) ?_
    show Steps p.tables e below (T682.setTop (mkF m 52 #[.val (.ref d), .unset, .unset, .unset, .unset] [(.int (1 : Int32)), (.int (1 : Int32)), (.ref d)])) _
    refine XS.iadd X682.here hx rfl (hb hby d20_52) rfl ?_
    show Steps p.tables e below (T682.setTop (mkF m 53 #[.val (.ref d), .unset, .unset, .unset, .unset] [(.int ((1 : Int32) + (1 : Int32))), (.ref d)])) _
    rw [show ((1 : Int32) + (1 : Int32)) = (2 : Int32) from (by decide : ((1 : Int32) + (1 : Int32)) = (2 : Int32))]
    show Steps p.tables e below (T682.setTop (mkF m 53 #[.val (.ref d), .unset, .unset, .unset, .unset] [(.int (2 : Int32)), (.ref d)])) _
    exact kq)
  obtain ⟨T685, h685, X685, e685, W685, st685⟩ := putF X682 hx hZ hown (host := "") (Or.inl (hw _ (List.mem_of_getElem? (i := 92) rfl))) Via.refl e682 D0_ Ed (Or.inl (hw _ (List.mem_of_getElem? (i := 93) rfl))) (hw _ (List.mem_of_getElem? (i := 86) rfl)) (ty := .int) (by decide) rfl rfl (g := (mkF m 53 #[.val (.ref d), .unset, .unset, .unset, .unset] [(.int (2 : Int32)), (.ref d)])) rfl rfl (hb hby d20_53)
  have N685 := Fr.snoc X685 N0 (show @LE.le Nat _ n0 d by omega)
  have fw685 := D0_.same W685
  have G686 : Go p e below A0 (T685.setTop (mkF m 56 #[.val (.ref d), .unset, .unset, .unset, .unset] [])) := fun tq kq => G684 tq (st685 _ kq)
  have f687 := (D1_.other W685 (Or.inr (slot_ne (Or.inr (hw _ (List.mem_of_getElem? (i := 106) rfl))) (Or.inl (hw _ (List.mem_of_getElem? (i := 93) rfl))) (by decide) (t := (.array (.array .int))) (t' := .int) (by decide) (by decide))))
  have f688 := (D2_.other W685 (Or.inr (slot_ne (Or.inr (hw _ (List.mem_of_getElem? (i := 108) rfl))) (Or.inl (hw _ (List.mem_of_getElem? (i := 93) rfl))) (by decide) (t := (.array (.array .int))) (t' := .int) (by decide) (by decide))))
  have f689 := (D3_.other W685 (Or.inr (slot_ne (Or.inr (hw _ (List.mem_of_getElem? (i := 110) rfl))) (Or.inl (hw _ (List.mem_of_getElem? (i := 93) rfl))) (by decide) (t := (.array .int)) (t' := .int) (by decide) (by decide))))
  have f690 := (D4_.other W685 (Or.inr (slot_ne (Or.inr (hw _ (List.mem_of_getElem? (i := 112) rfl))) (Or.inl (hw _ (List.mem_of_getElem? (i := 93) rfl))) (by decide) (t := (.array (.array .int))) (t' := .int) (by decide) (by decide))))
  have f691 := (Ed.wr W685)
  have f692 := (Amem.other W685 (Ne.symm (show @Ne Nat d mem by omega)))
  have f693 := (Apos.other W685 (Ne.symm (show @Ne Nat d pos by omega)))
  have f694 := (Asiz.other W685 (Ne.symm (show @Ne Nat d siz by omega)))
  have f695 := (Amrk.other W685 (Ne.symm (show @Ne Nat d mrk by omega)))
  have f696 := (Am0.other W685 (Ne.symm (show @Ne Nat d m0 by omega)))
  have f697 := (Ap0.other W685 (Ne.symm (show @Ne Nat d p0 by omega)))
  have f698 := (Ak0.other W685 (Ne.symm (show @Ne Nat d k0 by omega)))
  have f699 := (Am1.other W685 (Ne.symm (show @Ne Nat d m1 by omega)))
  have f700 := (Ap1.other W685 (Ne.symm (show @Ne Nat d p1 by omega)))
  have f701 := (Ak1.other W685 (Ne.symm (show @Ne Nat d k1 by omega)))
  obtain ⟨fs, hr, hrun, hended, hW, hsame⟩ := X685.leave (v := none) (fun _ => rfl)
  refine ⟨_, _, (by rw [← hA0]; exact G686 _ (X685.returnOut hx Bd.returns (hb hby d20_56) hr)), hrun, hended, _, _, rfl, ?_, ⟨_, rfl⟩, hW, hsame.mono (by decide) (by decide)⟩
  show Qcm Z d mem pos siz mrk m0 p0 k0 m1 p1 k1 fsz fm0 fp0 fk0 fm1 fp1 fk1 h0 n0 _ T685.heap _
  rw [e685]
  exact ⟨rfl, N685, ((Keep.refl h0 [d]).wr W685 (Or.inl (List.mem_of_getElem? (i := 0) rfl))), ⟨f691, fw685, f687, f688, f689, f690, ⟨_, f692⟩, ⟨_, f693⟩, ⟨_, f695⟩, ⟨_, f694⟩, ⟨_, f696⟩, ⟨_, f697⟩, ⟨_, f698⟩, ⟨_, f699⟩, ⟨_, f700⟩, ⟨_, f701⟩⟩⟩
theorem own_upz (i : Nat) : ¬ own_zero i = (1 : Int32) := by unfold own_zero; decide
theorem own_natinj {a b : Int32} (ha : ¬ a < 0) (hb : ¬ b < 0) : a.toNatClampNeg = b.toNatClampNeg ↔ a = b := by
  constructor
  · intro h
    have e1 := nat_of ha
    have e2 := nat_of hb
    rw [← Int32.toInt_inj, e1, e2, h]
  · rintro rfl; rfl
theorem own_m2 {a b : Int32} (ha : ¬ a < 0) (hb : ¬ b < 0) : own_b (¬ own_up own_zero a.toNatClampNeg (1 : Int32) b.toNatClampNeg = (1 : Int32)) = own_b (¬ b = a) := by
  refine own_beq (not_congr ?_)
  unfold own_up
  by_cases h : b.toNatClampNeg = a.toNatClampNeg
  · simp [h, (own_natinj hb ha).mp h]
  · simp only [h, if_false]
    constructor
    · intro q; exact absurd q (own_upz _)
    · intro q; exact absurd ((own_natinj hb ha).mpr q) h
def own_SV (l4 l6 l7 l8 l9 : Int32) : Prop := (l4 = (0 : Int32) ∧ l6 = (0 : Int32) ∧ l7 = (1 : Int32) ∧ l8 = (3 : Int32) ∧ l9 = (2 : Int32)) ∨ (l4 = (1 : Int32) ∧ l6 = (1 : Int32) ∧ l7 = (0 : Int32) ∧ l8 = (2 : Int32) ∧ l9 = (3 : Int32))
theorem own_rem (x : Int32) (k : Int32) (hk : k = (3 : Int32) ∨ k = (2 : Int32)) : ¬ ((x &&& (2147483647 : Int32)) % k) < 0 ∧ ((x &&& (2147483647 : Int32)) % k) < k := by
  have a1 := (c_and x 2147483647 (by decide)).1
  have a2 := (c_iremV (x &&& 2147483647) k).1 a1 (by rcases hk with rfl | rfl <;> decide)
  rw [Int32.lt_iff_toInt_lt, Int32.lt_iff_toInt_lt]
  have e0 : (0 : Int32).toInt = 0 := by decide
  rw [e0]; omega
def Q0c (n0 : Nat) (v : Option Value) (L : List Loc) : Prop := v = some (.int 1) ∧ Fr n0 L
set_option maxRecDepth 65536 in
set_option maxHeartbeats 40000000 in
theorem rm0 (l : Launch) (Z : State) (a0 : Array Value) (hw : ∀ d ∈ tables_1, d.before a0 Z = true) (ws : List Jvm.Cond) (p0 p1 p2 p3 : Int32) (da : Addr) (kd : ClassId) (h0 : Heap) (n0 : Nat) (Z0 : n0 ≤ h0.size) (hold : Old Z n0 h0) (hSd : Sta Z Z.heap "java/util/ArrayList" "DEFAULTCAPACITY_EMPTY_ELEMENTDATA" "[Ljava/lang/Object;" (.ref da)) (hAd : Arv Z Z.heap da kd (.object "java/lang/Object") (0 : Int32) [] .null) :
    MetFree l x (head1 (Jvm.Cond.code x code maxLocals ret :: ws) room_1) (fun aa UU => aa = #[(.int p0), (.int p1), (.int p2), (.int p3)] ∧ Z.Warmed39 UU.vm ∧ UU.heap = h0) (fun _ _ _ _ _ => True) (fun _ UU oo U' => ∃ v L, oo = .returned v ∧ Q0c n0 v L ∧ ReturnedEndW UU oo U' L room_1.cells room_1.slots) := by
  refine MetFree.of_bodySF (plainFor_of_name pn_7) hisR ?_
  intro p e s m args below meth c s₁ Bd hml0 hP hK
  obtain ⟨rfl, hZ, hh⟩ := hP
  have hx := Bd.exec
  have hby := Bd.bytes
  have hml : c.maxLocals = 22 := hml0
  have hown : s.vm.findClass "com/example/ludarc/ludarc/engine/DomainsMarkPinLaw" = some m.cls := findClass_of_methodNamed Bd.named
  have hnm := (name_of_methodNamed Bd.named Bd.method).1
  have X0 : Stand p l e room_1 s m #[(.int p0), (.int p1), (.int p2), (.int p3)] below meth c s₁ [] 0 0 := Stand.of_body Bd
  have e0 : s₁.heap = h0 := by rw [← hh, Bd.state]; rfl
  have N0 := Fr.nil n0
  obtain ⟨A0, hA0⟩ : ∃ A, A = s₁.setTop (entryFrame m #[(.int p0), (.int p1), (.int p2), (.int p3)] maxLocals) := ⟨_, rfl⟩
  have G0 : Go p e below A0 (s₁.setTop (mkF m 0 #[.val (.int p0), .val (.int p1), .val (.int p2), .val (.int p3), .unset, .unset, .unset, .unset, .unset, .unset, .unset, .unset, .unset, .unset, .unset, .unset, .unset, .unset, .unset, .unset, .unset, .unset] [])) := fun tq kq => by rw [hA0]; exact castTop (ef_rm0 m p0 p1 p2 p3) kq
  have hS : s.Since s.vm 0 := (State.WarmedH.refl s).since 0
  have hstr : ∀ d ∈ Bundle.stringAtoms, d.before a0 Z = true := fun d hd => hw d ((by decide +kernel : ∀ d ∈ Bundle.stringAtoms, d ∈ tables_1) d hd)
  obtain ⟨l4, l5, l6, l7, l8, l9, hG702, G702⟩ : ∃ (l4 : Int32) (l5 : Int32) (l6 : Int32) (l7 : Int32) (l8 : Int32) (l9 : Int32), (own_SV l4 l6 l7 l8 l9 ∧ (l5 = (0 : Int32) ∨ l5 = (1 : Int32))) ∧ Go p e below A0 (s₁.setTop (mkF m 74 #[.val (.int p0), .val (.int p1), .val (.int p2), .val (.int p3), .val (.int l4), .val (.int l5), .val (.int l6), .val (.int l7), .val (.int l8), .val (.int l9), .unset, .unset, .unset, .unset, .unset, .unset, .unset, .unset, .unset, .unset, .unset, .unset] [])) := by
    have G703 : Go p e below A0 (s₁.setTop (mkF m 3 #[.val (.int p0), .val (.int p1), .val (.int p2), .val (.int p3), .unset, .unset, .unset, .unset, .unset, .unset, .unset, .unset, .unset, .unset, .unset, .unset, .unset, .unset, .unset, .unset, .unset, .unset] [(.int (p3 &&& (1 : Int32)))])) := fun tq kq => G0 tq (by
      refine XS.iloadN X0.here hx rfl (hb hby at_0) rfl ?_
      show Steps p.tables e below (s₁.setTop (mkF m 1 #[.val (.int p0), .val (.int p1), .val (.int p2), .val (.int p3), .unset, .unset, .unset, .unset, .unset, .unset, .unset, .unset, .unset, .unset, .unset, .unset, .unset, .unset, .unset, .unset, .unset, .unset] [(.int p3)])) _
      refine XS.iconst X0.here hx rfl (hb hby at_1) ?_
      show Steps p.tables e below (s₁.setTop (mkF m 2 #[.val (.int p0), .val (.int p1), .val (.int p2), .val (.int p3), .unset, .unset, .unset, .unset, .unset, .unset, .unset, .unset, .unset, .unset, .unset, .unset, .unset, .unset, .unset, .unset, .unset, .unset] [(.int (1 : Int32)), (.int p3)])) _
      refine XS.iand X0.here hx rfl (hb hby at_2) rfl ?_
      show Steps p.tables e below (s₁.setTop (mkF m 3 #[.val (.int p0), .val (.int p1), .val (.int p2), .val (.int p3), .unset, .unset, .unset, .unset, .unset, .unset, .unset, .unset, .unset, .unset, .unset, .unset, .unset, .unset, .unset, .unset, .unset, .unset] [(.int (p3 &&& (1 : Int32)))])) _
      exact kq)
    by_cases hc704 : (p3 &&& (1 : Int32)) = (0 : Int32)
    · have G705 : Go p e below A0 (s₁.setTop (mkF m 16 #[.val (.int p0), .val (.int p1), .val (.int p2), .val (.int p3), .val (.int (0 : Int32)), .unset, .unset, .unset, .unset, .unset, .unset, .unset, .unset, .unset, .unset, .unset, .unset, .unset, .unset, .unset, .unset, .unset] [(.int (p3 &&& (2 : Int32)))])) := fun tq kq => G703 tq (by
        refine XS.ifYes X0.here hx rfl (pc0 := 3) (pc' := 10) rfl (hb hby at_3) rfl ((if0 _ _).trans (teq hc704).1) (by decide) (by decide) ?_
        show Steps p.tables e below (s₁.setTop (mkF m 10 #[.val (.int p0), .val (.int p1), .val (.int p2), .val (.int p3), .unset, .unset, .unset, .unset, .unset, .unset, .unset, .unset, .unset, .unset, .unset, .unset, .unset, .unset, .unset, .unset, .unset, .unset] [])) _
        refine XS.iconst X0.here hx rfl (hb hby at_10) ?_
        show Steps p.tables e below (s₁.setTop (mkF m 11 #[.val (.int p0), .val (.int p1), .val (.int p2), .val (.int p3), .unset, .unset, .unset, .unset, .unset, .unset, .unset, .unset, .unset, .unset, .unset, .unset, .unset, .unset, .unset, .unset, .unset, .unset] [(.int (0 : Int32))])) _
        refine XS.istore X0.here hx rfl (hb hby at_11) rfl (l' := #[.val (.int p0), .val (.int p1), .val (.int p2), .val (.int p3), .val (.int (0 : Int32)), .unset, .unset, .unset, .unset, .unset, .unset, .unset, .unset, .unset, .unset, .unset, .unset, .unset, .unset, .unset, .unset, .unset]) rfl ?_
        show Steps p.tables e below (s₁.setTop (mkF m 13 #[.val (.int p0), .val (.int p1), .val (.int p2), .val (.int p3), .val (.int (0 : Int32)), .unset, .unset, .unset, .unset, .unset, .unset, .unset, .unset, .unset, .unset, .unset, .unset, .unset, .unset, .unset, .unset, .unset] [])) _
        refine XS.iloadN X0.here hx rfl (hb hby at_13) rfl ?_
        show Steps p.tables e below (s₁.setTop (mkF m 14 #[.val (.int p0), .val (.int p1), .val (.int p2), .val (.int p3), .val (.int (0 : Int32)), .unset, .unset, .unset, .unset, .unset, .unset, .unset, .unset, .unset, .unset, .unset, .unset, .unset, .unset, .unset, .unset, .unset] [(.int p3)])) _
        refine XS.iconst X0.here hx rfl (hb hby at_14) ?_
        show Steps p.tables e below (s₁.setTop (mkF m 15 #[.val (.int p0), .val (.int p1), .val (.int p2), .val (.int p3), .val (.int (0 : Int32)), .unset, .unset, .unset, .unset, .unset, .unset, .unset, .unset, .unset, .unset, .unset, .unset, .unset, .unset, .unset, .unset, .unset] [(.int (2 : Int32)), (.int p3)])) _
        refine XS.iand X0.here hx rfl (hb hby at_15) rfl ?_
        show Steps p.tables e below (s₁.setTop (mkF m 16 #[.val (.int p0), .val (.int p1), .val (.int p2), .val (.int p3), .val (.int (0 : Int32)), .unset, .unset, .unset, .unset, .unset, .unset, .unset, .unset, .unset, .unset, .unset, .unset, .unset, .unset, .unset, .unset, .unset] [(.int (p3 &&& (2 : Int32)))])) _
        exact kq)
      by_cases hc706 : (p3 &&& (2 : Int32)) = (0 : Int32)
      · have G707 : Go p e below A0 (s₁.setTop (mkF m 74 #[.val (.int p0), .val (.int p1), .val (.int p2), .val (.int p3), .val (.int (0 : Int32)), .val (.int (0 : Int32)), .val (.int (0 : Int32)), .val (.int (1 : Int32)), .val (.int (3 : Int32)), .val (.int (2 : Int32)), .unset, .unset, .unset, .unset, .unset, .unset, .unset, .unset, .unset, .unset, .unset, .unset] [])) := fun tq kq => G705 tq (by
          refine XS.ifYes X0.here hx rfl (pc0 := 16) (pc' := 23) rfl (hb hby at_16) rfl ((if0 _ _).trans (teq hc706).1) (by decide) (by decide) ?_
          show Steps p.tables e below (s₁.setTop (mkF m 23 #[.val (.int p0), .val (.int p1), .val (.int p2), .val (.int p3), .val (.int (0 : Int32)), .unset, .unset, .unset, .unset, .unset, .unset, .unset, .unset, .unset, .unset, .unset, .unset, .unset, .unset, .unset, .unset, .unset] [])) _
          refine XS.iconst X0.here hx rfl (hb hby at_23) ?_
          show Steps p.tables e below (s₁.setTop (mkF m 24 #[.val (.int p0), .val (.int p1), .val (.int p2), .val (.int p3), .val (.int (0 : Int32)), .unset, .unset, .unset, .unset, .unset, .unset, .unset, .unset, .unset, .unset, .unset, .unset, .unset, .unset, .unset, .unset, .unset] [(.int (0 : Int32))])) _
          refine XS.istore X0.here hx rfl (hb hby at_24) rfl (l' := #[.val (.int p0), .val (.int p1), .val (.int p2), .val (.int p3), .val (.int (0 : Int32)), .val (.int (0 : Int32)), .unset, .unset, .unset, .unset, .unset, .unset, .unset, .unset, .unset, .unset, .unset, .unset, .unset, .unset, .unset, .unset]) rfl ?_
          show Steps p.tables e below (s₁.setTop (mkF m 26 #[.val (.int p0), .val (.int p1), .val (.int p2), .val (.int p3), .val (.int (0 : Int32)), .val (.int (0 : Int32)), .unset, .unset, .unset, .unset, .unset, .unset, .unset, .unset, .unset, .unset, .unset, .unset, .unset, .unset, .unset, .unset] [])) _
          refine XS.iload X0.here hx rfl (hb hby at_26) rfl ?_
          show Steps p.tables e below (s₁.setTop (mkF m 28 #[.val (.int p0), .val (.int p1), .val (.int p2), .val (.int p3), .val (.int (0 : Int32)), .val (.int (0 : Int32)), .unset, .unset, .unset, .unset, .unset, .unset, .unset, .unset, .unset, .unset, .unset, .unset, .unset, .unset, .unset, .unset] [(.int (0 : Int32))])) _
          refine XS.ifYes X0.here hx rfl (pc0 := 28) (pc' := 35) rfl (hb hby at_28) rfl (by decide) (by decide) (by decide) ?_
          show Steps p.tables e below (s₁.setTop (mkF m 35 #[.val (.int p0), .val (.int p1), .val (.int p2), .val (.int p3), .val (.int (0 : Int32)), .val (.int (0 : Int32)), .unset, .unset, .unset, .unset, .unset, .unset, .unset, .unset, .unset, .unset, .unset, .unset, .unset, .unset, .unset, .unset] [])) _
          refine XS.iconst X0.here hx rfl (hb hby at_35) ?_
          show Steps p.tables e below (s₁.setTop (mkF m 36 #[.val (.int p0), .val (.int p1), .val (.int p2), .val (.int p3), .val (.int (0 : Int32)), .val (.int (0 : Int32)), .unset, .unset, .unset, .unset, .unset, .unset, .unset, .unset, .unset, .unset, .unset, .unset, .unset, .unset, .unset, .unset] [(.int (0 : Int32))])) _
          refine XS.istore X0.here hx rfl (hb hby at_36) rfl (l' := #[.val (.int p0), .val (.int p1), .val (.int p2), .val (.int p3), .val (.int (0 : Int32)), .val (.int (0 : Int32)), .val (.int (0 : Int32)), .unset, .unset, .unset, .unset, .unset, .unset, .unset, .unset, .unset, .unset, .unset, .unset, .unset, .unset, .unset]) rfl ?_
          show Steps p.tables e below (s₁.setTop (mkF m 38 #[.val (.int p0), .val (.int p1), .val (.int p2), .val (.int p3), .val (.int (0 : Int32)), .val (.int (0 : Int32)), .val (.int (0 : Int32)), .unset, .unset, .unset, .unset, .unset, .unset, .unset, .unset, .unset, .unset, .unset, .unset, .unset, .unset, .unset] [])) _
          refine XS.iload X0.here hx rfl (hb hby at_38) rfl ?_
          show Steps p.tables e below (s₁.setTop (mkF m 40 #[.val (.int p0), .val (.int p1), .val (.int p2), .val (.int p3), .val (.int (0 : Int32)), .val (.int (0 : Int32)), .val (.int (0 : Int32)), .unset, .unset, .unset, .unset, .unset, .unset, .unset, .unset, .unset, .unset, .unset, .unset, .unset, .unset, .unset] [(.int (0 : Int32))])) _
          refine XS.ifYes X0.here hx rfl (pc0 := 40) (pc' := 47) rfl (hb hby at_40) rfl (by decide) (by decide) (by decide) ?_
          show Steps p.tables e below (s₁.setTop (mkF m 47 #[.val (.int p0), .val (.int p1), .val (.int p2), .val (.int p3), .val (.int (0 : Int32)), .val (.int (0 : Int32)), .val (.int (0 : Int32)), .unset, .unset, .unset, .unset, .unset, .unset, .unset, .unset, .unset, .unset, .unset, .unset, .unset, .unset, .unset] [])) _
          refine XS.iconst X0.here hx rfl (hb hby at_47) ?_
          show Steps p.tables e below (s₁.setTop (mkF m 48 #[.val (.int p0), .val (.int p1), .val (.int p2), .val (.int p3), .val (.int (0 : Int32)), .val (.int (0 : Int32)), .val (.int (0 : Int32)), .unset, .unset, .unset, .unset, .unset, .unset, .unset, .unset, .unset, .unset, .unset, .unset, .unset, .unset, .unset] [(.int (1 : Int32))])) _
          refine XS.istore X0.here hx rfl (hb hby at_48) rfl (l' := #[.val (.int p0), .val (.int p1), .val (.int p2), .val (.int p3), .val (.int (0 : Int32)), .val (.int (0 : Int32)), .val (.int (0 : Int32)), .val (.int (1 : Int32)), .unset, .unset, .unset, .unset, .unset, .unset, .unset, .unset, .unset, .unset, .unset, .unset, .unset, .unset]) rfl ?_
          show Steps p.tables e below (s₁.setTop (mkF m 50 #[.val (.int p0), .val (.int p1), .val (.int p2), .val (.int p3), .val (.int (0 : Int32)), .val (.int (0 : Int32)), .val (.int (0 : Int32)), .val (.int (1 : Int32)), .unset, .unset, .unset, .unset, .unset, .unset, .unset, .unset, .unset, .unset, .unset, .unset, .unset, .unset] [])) _
          refine XS.iload X0.here hx rfl (hb hby at_50) rfl ?_
          show Steps p.tables e below (s₁.setTop (mkF m 52 #[.val (.int p0), .val (.int p1), .val (.int p2), .val (.int p3), .val (.int (0 : Int32)), .val (.int (0 : Int32)), .val (.int (0 : Int32)), .val (.int (1 : Int32)), .unset, .unset, .unset, .unset, .unset, .unset, .unset, .unset, .unset, .unset, .unset, .unset, .unset, .unset] [(.int (0 : Int32))])) _
          refine XS.ifYes X0.here hx rfl (pc0 := 52) (pc' := 59) rfl (hb hby at_52) rfl (by decide) (by decide) (by decide) ?_
          show Steps p.tables e below (s₁.setTop (mkF m 59 #[.val (.int p0), .val (.int p1), .val (.int p2), .val (.int p3), .val (.int (0 : Int32)), .val (.int (0 : Int32)), .val (.int (0 : Int32)), .val (.int (1 : Int32)), .unset, .unset, .unset, .unset, .unset, .unset, .unset, .unset, .unset, .unset, .unset, .unset, .unset, .unset] [])) _
          refine XS.iconst X0.here hx rfl (hb hby at_59) ?_
          show Steps p.tables e below (s₁.setTop (mkF m 60 #[.val (.int p0), .val (.int p1), .val (.int p2), .val (.int p3), .val (.int (0 : Int32)), .val (.int (0 : Int32)), .val (.int (0 : Int32)), .val (.int (1 : Int32)), .unset, .unset, .unset, .unset, .unset, .unset, .unset, .unset, .unset, .unset, .unset, .unset, .unset, .unset] [(.int (3 : Int32))])) _
          refine XS.istore X0.here hx rfl (hb hby at_60) rfl (l' := #[.val (.int p0), .val (.int p1), .val (.int p2), .val (.int p3), .val (.int (0 : Int32)), .val (.int (0 : Int32)), .val (.int (0 : Int32)), .val (.int (1 : Int32)), .val (.int (3 : Int32)), .unset, .unset, .unset, .unset, .unset, .unset, .unset, .unset, .unset, .unset, .unset, .unset, .unset]) rfl ?_
          show Steps p.tables e below (s₁.setTop (mkF m 62 #[.val (.int p0), .val (.int p1), .val (.int p2), .val (.int p3), .val (.int (0 : Int32)), .val (.int (0 : Int32)), .val (.int (0 : Int32)), .val (.int (1 : Int32)), .val (.int (3 : Int32)), .unset, .unset, .unset, .unset, .unset, .unset, .unset, .unset, .unset, .unset, .unset, .unset, .unset] [])) _
          refine XS.iload X0.here hx rfl (hb hby at_62) rfl ?_
          show Steps p.tables e below (s₁.setTop (mkF m 64 #[.val (.int p0), .val (.int p1), .val (.int p2), .val (.int p3), .val (.int (0 : Int32)), .val (.int (0 : Int32)), .val (.int (0 : Int32)), .val (.int (1 : Int32)), .val (.int (3 : Int32)), .unset, .unset, .unset, .unset, .unset, .unset, .unset, .unset, .unset, .unset, .unset, .unset, .unset] [(.int (0 : Int32))])) _
          refine XS.ifYes X0.here hx rfl (pc0 := 64) (pc' := 71) rfl (hb hby at_64) rfl (by decide) (by decide) (by decide) ?_
          show Steps p.tables e below (s₁.setTop (mkF m 71 #[.val (.int p0), .val (.int p1), .val (.int p2), .val (.int p3), .val (.int (0 : Int32)), .val (.int (0 : Int32)), .val (.int (0 : Int32)), .val (.int (1 : Int32)), .val (.int (3 : Int32)), .unset, .unset, .unset, .unset, .unset, .unset, .unset, .unset, .unset, .unset, .unset, .unset, .unset] [])) _
          refine XS.iconst X0.here hx rfl (hb hby at_71) ?_
          show Steps p.tables e below (s₁.setTop (mkF m 72 #[.val (.int p0), .val (.int p1), .val (.int p2), .val (.int p3), .val (.int (0 : Int32)), .val (.int (0 : Int32)), .val (.int (0 : Int32)), .val (.int (1 : Int32)), .val (.int (3 : Int32)), .unset, .unset, .unset, .unset, .unset, .unset, .unset, .unset, .unset, .unset, .unset, .unset, .unset] [(.int (2 : Int32))])) _
          refine XS.istore X0.here hx rfl (hb hby at_72) rfl (l' := #[.val (.int p0), .val (.int p1), .val (.int p2), .val (.int p3), .val (.int (0 : Int32)), .val (.int (0 : Int32)), .val (.int (0 : Int32)), .val (.int (1 : Int32)), .val (.int (3 : Int32)), .val (.int (2 : Int32)), .unset, .unset, .unset, .unset, .unset, .unset, .unset, .unset, .unset, .unset, .unset, .unset]) rfl ?_
          show Steps p.tables e below (s₁.setTop (mkF m 74 #[.val (.int p0), .val (.int p1), .val (.int p2), .val (.int p3), .val (.int (0 : Int32)), .val (.int (0 : Int32)), .val (.int (0 : Int32)), .val (.int (1 : Int32)), .val (.int (3 : Int32)), .val (.int (2 : Int32)), .unset, .unset, .unset, .unset, .unset, .unset, .unset, .unset, .unset, .unset, .unset, .unset] [])) _
          exact kq)
        exact ⟨(0 : Int32), (0 : Int32), (0 : Int32), (1 : Int32), (3 : Int32), (2 : Int32), (by unfold own_SV; decide), G707⟩
      · have G708 : Go p e below A0 (s₁.setTop (mkF m 74 #[.val (.int p0), .val (.int p1), .val (.int p2), .val (.int p3), .val (.int (0 : Int32)), .val (.int (1 : Int32)), .val (.int (0 : Int32)), .val (.int (1 : Int32)), .val (.int (3 : Int32)), .val (.int (2 : Int32)), .unset, .unset, .unset, .unset, .unset, .unset, .unset, .unset, .unset, .unset, .unset, .unset] [])) := fun tq kq => G705 tq (by
          refine XS.ifNo X0.here hx rfl (hb hby at_16) rfl ((if0 _ _).trans (feq hc706).1) ?_
          show Steps p.tables e below (s₁.setTop (mkF m 19 #[.val (.int p0), .val (.int p1), .val (.int p2), .val (.int p3), .val (.int (0 : Int32)), .unset, .unset, .unset, .unset, .unset, .unset, .unset, .unset, .unset, .unset, .unset, .unset, .unset, .unset, .unset, .unset, .unset] [])) _
          refine XS.iconst X0.here hx rfl (hb hby at_19) ?_
          show Steps p.tables e below (s₁.setTop (mkF m 20 #[.val (.int p0), .val (.int p1), .val (.int p2), .val (.int p3), .val (.int (0 : Int32)), .unset, .unset, .unset, .unset, .unset, .unset, .unset, .unset, .unset, .unset, .unset, .unset, .unset, .unset, .unset, .unset, .unset] [(.int (1 : Int32))])) _
          refine XS.goto X0.here hx rfl (pc0 := 20) (pc' := 24) rfl (hb hby at_20) (by decide) (by decide) ?_
          show Steps p.tables e below (s₁.setTop (mkF m 24 #[.val (.int p0), .val (.int p1), .val (.int p2), .val (.int p3), .val (.int (0 : Int32)), .unset, .unset, .unset, .unset, .unset, .unset, .unset, .unset, .unset, .unset, .unset, .unset, .unset, .unset, .unset, .unset, .unset] [(.int (1 : Int32))])) _
          refine XS.istore X0.here hx rfl (hb hby at_24) rfl (l' := #[.val (.int p0), .val (.int p1), .val (.int p2), .val (.int p3), .val (.int (0 : Int32)), .val (.int (1 : Int32)), .unset, .unset, .unset, .unset, .unset, .unset, .unset, .unset, .unset, .unset, .unset, .unset, .unset, .unset, .unset, .unset]) rfl ?_
          show Steps p.tables e below (s₁.setTop (mkF m 26 #[.val (.int p0), .val (.int p1), .val (.int p2), .val (.int p3), .val (.int (0 : Int32)), .val (.int (1 : Int32)), .unset, .unset, .unset, .unset, .unset, .unset, .unset, .unset, .unset, .unset, .unset, .unset, .unset, .unset, .unset, .unset] [])) _
          refine XS.iload X0.here hx rfl (hb hby at_26) rfl ?_
          show Steps p.tables e below (s₁.setTop (mkF m 28 #[.val (.int p0), .val (.int p1), .val (.int p2), .val (.int p3), .val (.int (0 : Int32)), .val (.int (1 : Int32)), .unset, .unset, .unset, .unset, .unset, .unset, .unset, .unset, .unset, .unset, .unset, .unset, .unset, .unset, .unset, .unset] [(.int (0 : Int32))])) _
          refine XS.ifYes X0.here hx rfl (pc0 := 28) (pc' := 35) rfl (hb hby at_28) rfl (by decide) (by decide) (by decide) ?_
          show Steps p.tables e below (s₁.setTop (mkF m 35 #[.val (.int p0), .val (.int p1), .val (.int p2), .val (.int p3), .val (.int (0 : Int32)), .val (.int (1 : Int32)), .unset, .unset, .unset, .unset, .unset, .unset, .unset, .unset, .unset, .unset, .unset, .unset, .unset, .unset, .unset, .unset] [])) _
          refine XS.iconst X0.here hx rfl (hb hby at_35) ?_
          show Steps p.tables e below (s₁.setTop (mkF m 36 #[.val (.int p0), .val (.int p1), .val (.int p2), .val (.int p3), .val (.int (0 : Int32)), .val (.int (1 : Int32)), .unset, .unset, .unset, .unset, .unset, .unset, .unset, .unset, .unset, .unset, .unset, .unset, .unset, .unset, .unset, .unset] [(.int (0 : Int32))])) _
          refine XS.istore X0.here hx rfl (hb hby at_36) rfl (l' := #[.val (.int p0), .val (.int p1), .val (.int p2), .val (.int p3), .val (.int (0 : Int32)), .val (.int (1 : Int32)), .val (.int (0 : Int32)), .unset, .unset, .unset, .unset, .unset, .unset, .unset, .unset, .unset, .unset, .unset, .unset, .unset, .unset, .unset]) rfl ?_
          show Steps p.tables e below (s₁.setTop (mkF m 38 #[.val (.int p0), .val (.int p1), .val (.int p2), .val (.int p3), .val (.int (0 : Int32)), .val (.int (1 : Int32)), .val (.int (0 : Int32)), .unset, .unset, .unset, .unset, .unset, .unset, .unset, .unset, .unset, .unset, .unset, .unset, .unset, .unset, .unset] [])) _
          refine XS.iload X0.here hx rfl (hb hby at_38) rfl ?_
          show Steps p.tables e below (s₁.setTop (mkF m 40 #[.val (.int p0), .val (.int p1), .val (.int p2), .val (.int p3), .val (.int (0 : Int32)), .val (.int (1 : Int32)), .val (.int (0 : Int32)), .unset, .unset, .unset, .unset, .unset, .unset, .unset, .unset, .unset, .unset, .unset, .unset, .unset, .unset, .unset] [(.int (0 : Int32))])) _
          refine XS.ifYes X0.here hx rfl (pc0 := 40) (pc' := 47) rfl (hb hby at_40) rfl (by decide) (by decide) (by decide) ?_
          show Steps p.tables e below (s₁.setTop (mkF m 47 #[.val (.int p0), .val (.int p1), .val (.int p2), .val (.int p3), .val (.int (0 : Int32)), .val (.int (1 : Int32)), .val (.int (0 : Int32)), .unset, .unset, .unset, .unset, .unset, .unset, .unset, .unset, .unset, .unset, .unset, .unset, .unset, .unset, .unset] [])) _
          refine XS.iconst X0.here hx rfl (hb hby at_47) ?_
          show Steps p.tables e below (s₁.setTop (mkF m 48 #[.val (.int p0), .val (.int p1), .val (.int p2), .val (.int p3), .val (.int (0 : Int32)), .val (.int (1 : Int32)), .val (.int (0 : Int32)), .unset, .unset, .unset, .unset, .unset, .unset, .unset, .unset, .unset, .unset, .unset, .unset, .unset, .unset, .unset] [(.int (1 : Int32))])) _
          refine XS.istore X0.here hx rfl (hb hby at_48) rfl (l' := #[.val (.int p0), .val (.int p1), .val (.int p2), .val (.int p3), .val (.int (0 : Int32)), .val (.int (1 : Int32)), .val (.int (0 : Int32)), .val (.int (1 : Int32)), .unset, .unset, .unset, .unset, .unset, .unset, .unset, .unset, .unset, .unset, .unset, .unset, .unset, .unset]) rfl ?_
          show Steps p.tables e below (s₁.setTop (mkF m 50 #[.val (.int p0), .val (.int p1), .val (.int p2), .val (.int p3), .val (.int (0 : Int32)), .val (.int (1 : Int32)), .val (.int (0 : Int32)), .val (.int (1 : Int32)), .unset, .unset, .unset, .unset, .unset, .unset, .unset, .unset, .unset, .unset, .unset, .unset, .unset, .unset] [])) _
          refine XS.iload X0.here hx rfl (hb hby at_50) rfl ?_
          show Steps p.tables e below (s₁.setTop (mkF m 52 #[.val (.int p0), .val (.int p1), .val (.int p2), .val (.int p3), .val (.int (0 : Int32)), .val (.int (1 : Int32)), .val (.int (0 : Int32)), .val (.int (1 : Int32)), .unset, .unset, .unset, .unset, .unset, .unset, .unset, .unset, .unset, .unset, .unset, .unset, .unset, .unset] [(.int (0 : Int32))])) _
          refine XS.ifYes X0.here hx rfl (pc0 := 52) (pc' := 59) rfl (hb hby at_52) rfl (by decide) (by decide) (by decide) ?_
          show Steps p.tables e below (s₁.setTop (mkF m 59 #[.val (.int p0), .val (.int p1), .val (.int p2), .val (.int p3), .val (.int (0 : Int32)), .val (.int (1 : Int32)), .val (.int (0 : Int32)), .val (.int (1 : Int32)), .unset, .unset, .unset, .unset, .unset, .unset, .unset, .unset, .unset, .unset, .unset, .unset, .unset, .unset] [])) _
          refine XS.iconst X0.here hx rfl (hb hby at_59) ?_
          show Steps p.tables e below (s₁.setTop (mkF m 60 #[.val (.int p0), .val (.int p1), .val (.int p2), .val (.int p3), .val (.int (0 : Int32)), .val (.int (1 : Int32)), .val (.int (0 : Int32)), .val (.int (1 : Int32)), .unset, .unset, .unset, .unset, .unset, .unset, .unset, .unset, .unset, .unset, .unset, .unset, .unset, .unset] [(.int (3 : Int32))])) _
          refine XS.istore X0.here hx rfl (hb hby at_60) rfl (l' := #[.val (.int p0), .val (.int p1), .val (.int p2), .val (.int p3), .val (.int (0 : Int32)), .val (.int (1 : Int32)), .val (.int (0 : Int32)), .val (.int (1 : Int32)), .val (.int (3 : Int32)), .unset, .unset, .unset, .unset, .unset, .unset, .unset, .unset, .unset, .unset, .unset, .unset, .unset]) rfl ?_
          show Steps p.tables e below (s₁.setTop (mkF m 62 #[.val (.int p0), .val (.int p1), .val (.int p2), .val (.int p3), .val (.int (0 : Int32)), .val (.int (1 : Int32)), .val (.int (0 : Int32)), .val (.int (1 : Int32)), .val (.int (3 : Int32)), .unset, .unset, .unset, .unset, .unset, .unset, .unset, .unset, .unset, .unset, .unset, .unset, .unset] [])) _
          refine XS.iload X0.here hx rfl (hb hby at_62) rfl ?_
          show Steps p.tables e below (s₁.setTop (mkF m 64 #[.val (.int p0), .val (.int p1), .val (.int p2), .val (.int p3), .val (.int (0 : Int32)), .val (.int (1 : Int32)), .val (.int (0 : Int32)), .val (.int (1 : Int32)), .val (.int (3 : Int32)), .unset, .unset, .unset, .unset, .unset, .unset, .unset, .unset, .unset, .unset, .unset, .unset, .unset] [(.int (0 : Int32))])) _
          refine XS.ifYes X0.here hx rfl (pc0 := 64) (pc' := 71) rfl (hb hby at_64) rfl (by decide) (by decide) (by decide) ?_
          show Steps p.tables e below (s₁.setTop (mkF m 71 #[.val (.int p0), .val (.int p1), .val (.int p2), .val (.int p3), .val (.int (0 : Int32)), .val (.int (1 : Int32)), .val (.int (0 : Int32)), .val (.int (1 : Int32)), .val (.int (3 : Int32)), .unset, .unset, .unset, .unset, .unset, .unset, .unset, .unset, .unset, .unset, .unset, .unset, .unset] [])) _
          refine XS.iconst X0.here hx rfl (hb hby at_71) ?_
          show Steps p.tables e below (s₁.setTop (mkF m 72 #[.val (.int p0), .val (.int p1), .val (.int p2), .val (.int p3), .val (.int (0 : Int32)), .val (.int (1 : Int32)), .val (.int (0 : Int32)), .val (.int (1 : Int32)), .val (.int (3 : Int32)), .unset, .unset, .unset, .unset, .unset, .unset, .unset, .unset, .unset, .unset, .unset, .unset, .unset] [(.int (2 : Int32))])) _
          refine XS.istore X0.here hx rfl (hb hby at_72) rfl (l' := #[.val (.int p0), .val (.int p1), .val (.int p2), .val (.int p3), .val (.int (0 : Int32)), .val (.int (1 : Int32)), .val (.int (0 : Int32)), .val (.int (1 : Int32)), .val (.int (3 : Int32)), .val (.int (2 : Int32)), .unset, .unset, .unset, .unset, .unset, .unset, .unset, .unset, .unset, .unset, .unset, .unset]) rfl ?_
          show Steps p.tables e below (s₁.setTop (mkF m 74 #[.val (.int p0), .val (.int p1), .val (.int p2), .val (.int p3), .val (.int (0 : Int32)), .val (.int (1 : Int32)), .val (.int (0 : Int32)), .val (.int (1 : Int32)), .val (.int (3 : Int32)), .val (.int (2 : Int32)), .unset, .unset, .unset, .unset, .unset, .unset, .unset, .unset, .unset, .unset, .unset, .unset] [])) _
          exact kq)
        exact ⟨(0 : Int32), (1 : Int32), (0 : Int32), (1 : Int32), (3 : Int32), (2 : Int32), (by unfold own_SV; decide), G708⟩
    · have G709 : Go p e below A0 (s₁.setTop (mkF m 16 #[.val (.int p0), .val (.int p1), .val (.int p2), .val (.int p3), .val (.int (1 : Int32)), .unset, .unset, .unset, .unset, .unset, .unset, .unset, .unset, .unset, .unset, .unset, .unset, .unset, .unset, .unset, .unset, .unset] [(.int (p3 &&& (2 : Int32)))])) := fun tq kq => G703 tq (by
        refine XS.ifNo X0.here hx rfl (hb hby at_3) rfl ((if0 _ _).trans (feq hc704).1) ?_
        show Steps p.tables e below (s₁.setTop (mkF m 6 #[.val (.int p0), .val (.int p1), .val (.int p2), .val (.int p3), .unset, .unset, .unset, .unset, .unset, .unset, .unset, .unset, .unset, .unset, .unset, .unset, .unset, .unset, .unset, .unset, .unset, .unset] [])) _
        refine XS.iconst X0.here hx rfl (hb hby at_6) ?_
        show Steps p.tables e below (s₁.setTop (mkF m 7 #[.val (.int p0), .val (.int p1), .val (.int p2), .val (.int p3), .unset, .unset, .unset, .unset, .unset, .unset, .unset, .unset, .unset, .unset, .unset, .unset, .unset, .unset, .unset, .unset, .unset, .unset] [(.int (1 : Int32))])) _
        refine XS.goto X0.here hx rfl (pc0 := 7) (pc' := 11) rfl (hb hby at_7) (by decide) (by decide) ?_
        show Steps p.tables e below (s₁.setTop (mkF m 11 #[.val (.int p0), .val (.int p1), .val (.int p2), .val (.int p3), .unset, .unset, .unset, .unset, .unset, .unset, .unset, .unset, .unset, .unset, .unset, .unset, .unset, .unset, .unset, .unset, .unset, .unset] [(.int (1 : Int32))])) _
        refine XS.istore X0.here hx rfl (hb hby at_11) rfl (l' := #[.val (.int p0), .val (.int p1), .val (.int p2), .val (.int p3), .val (.int (1 : Int32)), .unset, .unset, .unset, .unset, .unset, .unset, .unset, .unset, .unset, .unset, .unset, .unset, .unset, .unset, .unset, .unset, .unset]) rfl ?_
        show Steps p.tables e below (s₁.setTop (mkF m 13 #[.val (.int p0), .val (.int p1), .val (.int p2), .val (.int p3), .val (.int (1 : Int32)), .unset, .unset, .unset, .unset, .unset, .unset, .unset, .unset, .unset, .unset, .unset, .unset, .unset, .unset, .unset, .unset, .unset] [])) _
        refine XS.iloadN X0.here hx rfl (hb hby at_13) rfl ?_
        show Steps p.tables e below (s₁.setTop (mkF m 14 #[.val (.int p0), .val (.int p1), .val (.int p2), .val (.int p3), .val (.int (1 : Int32)), .unset, .unset, .unset, .unset, .unset, .unset, .unset, .unset, .unset, .unset, .unset, .unset, .unset, .unset, .unset, .unset, .unset] [(.int p3)])) _
        refine XS.iconst X0.here hx rfl (hb hby at_14) ?_
        show Steps p.tables e below (s₁.setTop (mkF m 15 #[.val (.int p0), .val (.int p1), .val (.int p2), .val (.int p3), .val (.int (1 : Int32)), .unset, .unset, .unset, .unset, .unset, .unset, .unset, .unset, .unset, .unset, .unset, .unset, .unset, .unset, .unset, .unset, .unset] [(.int (2 : Int32)), (.int p3)])) _
        refine XS.iand X0.here hx rfl (hb hby at_15) rfl ?_
        show Steps p.tables e below (s₁.setTop (mkF m 16 #[.val (.int p0), .val (.int p1), .val (.int p2), .val (.int p3), .val (.int (1 : Int32)), .unset, .unset, .unset, .unset, .unset, .unset, .unset, .unset, .unset, .unset, .unset, .unset, .unset, .unset, .unset, .unset, .unset] [(.int (p3 &&& (2 : Int32)))])) _
        exact kq)
      by_cases hc710 : (p3 &&& (2 : Int32)) = (0 : Int32)
      · have G711 : Go p e below A0 (s₁.setTop (mkF m 74 #[.val (.int p0), .val (.int p1), .val (.int p2), .val (.int p3), .val (.int (1 : Int32)), .val (.int (0 : Int32)), .val (.int (1 : Int32)), .val (.int (0 : Int32)), .val (.int (2 : Int32)), .val (.int (3 : Int32)), .unset, .unset, .unset, .unset, .unset, .unset, .unset, .unset, .unset, .unset, .unset, .unset] [])) := fun tq kq => G709 tq (by
          refine XS.ifYes X0.here hx rfl (pc0 := 16) (pc' := 23) rfl (hb hby at_16) rfl ((if0 _ _).trans (teq hc710).1) (by decide) (by decide) ?_
          show Steps p.tables e below (s₁.setTop (mkF m 23 #[.val (.int p0), .val (.int p1), .val (.int p2), .val (.int p3), .val (.int (1 : Int32)), .unset, .unset, .unset, .unset, .unset, .unset, .unset, .unset, .unset, .unset, .unset, .unset, .unset, .unset, .unset, .unset, .unset] [])) _
          refine XS.iconst X0.here hx rfl (hb hby at_23) ?_
          show Steps p.tables e below (s₁.setTop (mkF m 24 #[.val (.int p0), .val (.int p1), .val (.int p2), .val (.int p3), .val (.int (1 : Int32)), .unset, .unset, .unset, .unset, .unset, .unset, .unset, .unset, .unset, .unset, .unset, .unset, .unset, .unset, .unset, .unset, .unset] [(.int (0 : Int32))])) _
          refine XS.istore X0.here hx rfl (hb hby at_24) rfl (l' := #[.val (.int p0), .val (.int p1), .val (.int p2), .val (.int p3), .val (.int (1 : Int32)), .val (.int (0 : Int32)), .unset, .unset, .unset, .unset, .unset, .unset, .unset, .unset, .unset, .unset, .unset, .unset, .unset, .unset, .unset, .unset]) rfl ?_
          show Steps p.tables e below (s₁.setTop (mkF m 26 #[.val (.int p0), .val (.int p1), .val (.int p2), .val (.int p3), .val (.int (1 : Int32)), .val (.int (0 : Int32)), .unset, .unset, .unset, .unset, .unset, .unset, .unset, .unset, .unset, .unset, .unset, .unset, .unset, .unset, .unset, .unset] [])) _
          refine XS.iload X0.here hx rfl (hb hby at_26) rfl ?_
          show Steps p.tables e below (s₁.setTop (mkF m 28 #[.val (.int p0), .val (.int p1), .val (.int p2), .val (.int p3), .val (.int (1 : Int32)), .val (.int (0 : Int32)), .unset, .unset, .unset, .unset, .unset, .unset, .unset, .unset, .unset, .unset, .unset, .unset, .unset, .unset, .unset, .unset] [(.int (1 : Int32))])) _
          refine XS.ifNo X0.here hx rfl (hb hby at_28) rfl (by decide) ?_
          show Steps p.tables e below (s₁.setTop (mkF m 31 #[.val (.int p0), .val (.int p1), .val (.int p2), .val (.int p3), .val (.int (1 : Int32)), .val (.int (0 : Int32)), .unset, .unset, .unset, .unset, .unset, .unset, .unset, .unset, .unset, .unset, .unset, .unset, .unset, .unset, .unset, .unset] [])) _
          refine XS.iconst X0.here hx rfl (hb hby at_31) ?_
          show Steps p.tables e below (s₁.setTop (mkF m 32 #[.val (.int p0), .val (.int p1), .val (.int p2), .val (.int p3), .val (.int (1 : Int32)), .val (.int (0 : Int32)), .unset, .unset, .unset, .unset, .unset, .unset, .unset, .unset, .unset, .unset, .unset, .unset, .unset, .unset, .unset, .unset] [(.int (1 : Int32))])) _
          refine XS.goto X0.here hx rfl (pc0 := 32) (pc' := 36) rfl (hb hby at_32) (by decide) (by decide) ?_
          show Steps p.tables e below (s₁.setTop (mkF m 36 #[.val (.int p0), .val (.int p1), .val (.int p2), .val (.int p3), .val (.int (1 : Int32)), .val (.int (0 : Int32)), .unset, .unset, .unset, .unset, .unset, .unset, .unset, .unset, .unset, .unset, .unset, .unset, .unset, .unset, .unset, .unset] [(.int (1 : Int32))])) _
          refine XS.istore X0.here hx rfl (hb hby at_36) rfl (l' := #[.val (.int p0), .val (.int p1), .val (.int p2), .val (.int p3), .val (.int (1 : Int32)), .val (.int (0 : Int32)), .val (.int (1 : Int32)), .unset, .unset, .unset, .unset, .unset, .unset, .unset, .unset, .unset, .unset, .unset, .unset, .unset, .unset, .unset]) rfl ?_
          show Steps p.tables e below (s₁.setTop (mkF m 38 #[.val (.int p0), .val (.int p1), .val (.int p2), .val (.int p3), .val (.int (1 : Int32)), .val (.int (0 : Int32)), .val (.int (1 : Int32)), .unset, .unset, .unset, .unset, .unset, .unset, .unset, .unset, .unset, .unset, .unset, .unset, .unset, .unset, .unset] [])) _
          refine XS.iload X0.here hx rfl (hb hby at_38) rfl ?_
          show Steps p.tables e below (s₁.setTop (mkF m 40 #[.val (.int p0), .val (.int p1), .val (.int p2), .val (.int p3), .val (.int (1 : Int32)), .val (.int (0 : Int32)), .val (.int (1 : Int32)), .unset, .unset, .unset, .unset, .unset, .unset, .unset, .unset, .unset, .unset, .unset, .unset, .unset, .unset, .unset] [(.int (1 : Int32))])) _
          refine XS.ifNo X0.here hx rfl (hb hby at_40) rfl (by decide) ?_
          show Steps p.tables e below (s₁.setTop (mkF m 43 #[.val (.int p0), .val (.int p1), .val (.int p2), .val (.int p3), .val (.int (1 : Int32)), .val (.int (0 : Int32)), .val (.int (1 : Int32)), .unset, .unset, .unset, .unset, .unset, .unset, .unset, .unset, .unset, .unset, .unset, .unset, .unset, .unset, .unset] [])) _
          refine XS.iconst X0.here hx rfl (hb hby at_43) ?_
          show Steps p.tables e below (s₁.setTop (mkF m 44 #[.val (.int p0), .val (.int p1), .val (.int p2), .val (.int p3), .val (.int (1 : Int32)), .val (.int (0 : Int32)), .val (.int (1 : Int32)), .unset, .unset, .unset, .unset, .unset, .unset, .unset, .unset, .unset, .unset, .unset, .unset, .unset, .unset, .unset] [(.int (0 : Int32))])) _
          refine XS.goto X0.here hx rfl (pc0 := 44) (pc' := 48) rfl (hb hby at_44) (by decide) (by decide) ?_
          show Steps p.tables e below (s₁.setTop (mkF m 48 #[.val (.int p0), .val (.int p1), .val (.int p2), .val (.int p3), .val (.int (1 : Int32)), .val (.int (0 : Int32)), .val (.int (1 : Int32)), .unset, .unset, .unset, .unset, .unset, .unset, .unset, .unset, .unset, .unset, .unset, .unset, .unset, .unset, .unset] [(.int (0 : Int32))])) _
          refine XS.istore X0.here hx rfl (hb hby at_48) rfl (l' := #[.val (.int p0), .val (.int p1), .val (.int p2), .val (.int p3), .val (.int (1 : Int32)), .val (.int (0 : Int32)), .val (.int (1 : Int32)), .val (.int (0 : Int32)), .unset, .unset, .unset, .unset, .unset, .unset, .unset, .unset, .unset, .unset, .unset, .unset, .unset, .unset]) rfl ?_
          show Steps p.tables e below (s₁.setTop (mkF m 50 #[.val (.int p0), .val (.int p1), .val (.int p2), .val (.int p3), .val (.int (1 : Int32)), .val (.int (0 : Int32)), .val (.int (1 : Int32)), .val (.int (0 : Int32)), .unset, .unset, .unset, .unset, .unset, .unset, .unset, .unset, .unset, .unset, .unset, .unset, .unset, .unset] [])) _
          refine XS.iload X0.here hx rfl (hb hby at_50) rfl ?_
          show Steps p.tables e below (s₁.setTop (mkF m 52 #[.val (.int p0), .val (.int p1), .val (.int p2), .val (.int p3), .val (.int (1 : Int32)), .val (.int (0 : Int32)), .val (.int (1 : Int32)), .val (.int (0 : Int32)), .unset, .unset, .unset, .unset, .unset, .unset, .unset, .unset, .unset, .unset, .unset, .unset, .unset, .unset] [(.int (1 : Int32))])) _
          refine XS.ifNo X0.here hx rfl (hb hby at_52) rfl (by decide) ?_
          show Steps p.tables e below (s₁.setTop (mkF m 55 #[.val (.int p0), .val (.int p1), .val (.int p2), .val (.int p3), .val (.int (1 : Int32)), .val (.int (0 : Int32)), .val (.int (1 : Int32)), .val (.int (0 : Int32)), .unset, .unset, .unset, .unset, .unset, .unset, .unset, .unset, .unset, .unset, .unset, .unset, .unset, .unset] [])) _
          refine XS.iconst X0.here hx rfl (hb hby at_55) ?_
          show Steps p.tables e below (s₁.setTop (mkF m 56 #[.val (.int p0), .val (.int p1), .val (.int p2), .val (.int p3), .val (.int (1 : Int32)), .val (.int (0 : Int32)), .val (.int (1 : Int32)), .val (.int (0 : Int32)), .unset, .unset, .unset, .unset, .unset, .unset, .unset, .unset, .unset, .unset, .unset, .unset, .unset, .unset] [(.int (2 : Int32))])) _
          refine XS.goto X0.here hx rfl (pc0 := 56) (pc' := 60) rfl (hb hby at_56) (by decide) (by decide) ?_
          show Steps p.tables e below (s₁.setTop (mkF m 60 #[.val (.int p0), .val (.int p1), .val (.int p2), .val (.int p3), .val (.int (1 : Int32)), .val (.int (0 : Int32)), .val (.int (1 : Int32)), .val (.int (0 : Int32)), .unset, .unset, .unset, .unset, .unset, .unset, .unset, .unset, .unset, .unset, .unset, .unset, .unset, .unset] [(.int (2 : Int32))])) _
          refine XS.istore X0.here hx rfl (hb hby at_60) rfl (l' := #[.val (.int p0), .val (.int p1), .val (.int p2), .val (.int p3), .val (.int (1 : Int32)), .val (.int (0 : Int32)), .val (.int (1 : Int32)), .val (.int (0 : Int32)), .val (.int (2 : Int32)), .unset, .unset, .unset, .unset, .unset, .unset, .unset, .unset, .unset, .unset, .unset, .unset, .unset]) rfl ?_
          show Steps p.tables e below (s₁.setTop (mkF m 62 #[.val (.int p0), .val (.int p1), .val (.int p2), .val (.int p3), .val (.int (1 : Int32)), .val (.int (0 : Int32)), .val (.int (1 : Int32)), .val (.int (0 : Int32)), .val (.int (2 : Int32)), .unset, .unset, .unset, .unset, .unset, .unset, .unset, .unset, .unset, .unset, .unset, .unset, .unset] [])) _
          refine XS.iload X0.here hx rfl (hb hby at_62) rfl ?_
          show Steps p.tables e below (s₁.setTop (mkF m 64 #[.val (.int p0), .val (.int p1), .val (.int p2), .val (.int p3), .val (.int (1 : Int32)), .val (.int (0 : Int32)), .val (.int (1 : Int32)), .val (.int (0 : Int32)), .val (.int (2 : Int32)), .unset, .unset, .unset, .unset, .unset, .unset, .unset, .unset, .unset, .unset, .unset, .unset, .unset] [(.int (1 : Int32))])) _
          refine XS.ifNo X0.here hx rfl (hb hby at_64) rfl (by decide) ?_
          show Steps p.tables e below (s₁.setTop (mkF m 67 #[.val (.int p0), .val (.int p1), .val (.int p2), .val (.int p3), .val (.int (1 : Int32)), .val (.int (0 : Int32)), .val (.int (1 : Int32)), .val (.int (0 : Int32)), .val (.int (2 : Int32)), .unset, .unset, .unset, .unset, .unset, .unset, .unset, .unset, .unset, .unset, .unset, .unset, .unset] [])) _
          refine XS.iconst X0.here hx rfl (hb hby at_67) ?_
          show Steps p.tables e below (s₁.setTop (mkF m 68 #[.val (.int p0), .val (.int p1), .val (.int p2), .val (.int p3), .val (.int (1 : Int32)), .val (.int (0 : Int32)), .val (.int (1 : Int32)), .val (.int (0 : Int32)), .val (.int (2 : Int32)), .unset, .unset, .unset, .unset, .unset, .unset, .unset, .unset, .unset, .unset, .unset, .unset, .unset] [(.int (3 : Int32))])) _
          refine XS.goto X0.here hx rfl (pc0 := 68) (pc' := 72) rfl (hb hby at_68) (by decide) (by decide) ?_
          show Steps p.tables e below (s₁.setTop (mkF m 72 #[.val (.int p0), .val (.int p1), .val (.int p2), .val (.int p3), .val (.int (1 : Int32)), .val (.int (0 : Int32)), .val (.int (1 : Int32)), .val (.int (0 : Int32)), .val (.int (2 : Int32)), .unset, .unset, .unset, .unset, .unset, .unset, .unset, .unset, .unset, .unset, .unset, .unset, .unset] [(.int (3 : Int32))])) _
          refine XS.istore X0.here hx rfl (hb hby at_72) rfl (l' := #[.val (.int p0), .val (.int p1), .val (.int p2), .val (.int p3), .val (.int (1 : Int32)), .val (.int (0 : Int32)), .val (.int (1 : Int32)), .val (.int (0 : Int32)), .val (.int (2 : Int32)), .val (.int (3 : Int32)), .unset, .unset, .unset, .unset, .unset, .unset, .unset, .unset, .unset, .unset, .unset, .unset]) rfl ?_
          show Steps p.tables e below (s₁.setTop (mkF m 74 #[.val (.int p0), .val (.int p1), .val (.int p2), .val (.int p3), .val (.int (1 : Int32)), .val (.int (0 : Int32)), .val (.int (1 : Int32)), .val (.int (0 : Int32)), .val (.int (2 : Int32)), .val (.int (3 : Int32)), .unset, .unset, .unset, .unset, .unset, .unset, .unset, .unset, .unset, .unset, .unset, .unset] [])) _
          exact kq)
        exact ⟨(1 : Int32), (0 : Int32), (1 : Int32), (0 : Int32), (2 : Int32), (3 : Int32), (by unfold own_SV; decide), G711⟩
      · have G712 : Go p e below A0 (s₁.setTop (mkF m 74 #[.val (.int p0), .val (.int p1), .val (.int p2), .val (.int p3), .val (.int (1 : Int32)), .val (.int (1 : Int32)), .val (.int (1 : Int32)), .val (.int (0 : Int32)), .val (.int (2 : Int32)), .val (.int (3 : Int32)), .unset, .unset, .unset, .unset, .unset, .unset, .unset, .unset, .unset, .unset, .unset, .unset] [])) := fun tq kq => G709 tq (by
          refine XS.ifNo X0.here hx rfl (hb hby at_16) rfl ((if0 _ _).trans (feq hc710).1) ?_
          show Steps p.tables e below (s₁.setTop (mkF m 19 #[.val (.int p0), .val (.int p1), .val (.int p2), .val (.int p3), .val (.int (1 : Int32)), .unset, .unset, .unset, .unset, .unset, .unset, .unset, .unset, .unset, .unset, .unset, .unset, .unset, .unset, .unset, .unset, .unset] [])) _
          refine XS.iconst X0.here hx rfl (hb hby at_19) ?_
          show Steps p.tables e below (s₁.setTop (mkF m 20 #[.val (.int p0), .val (.int p1), .val (.int p2), .val (.int p3), .val (.int (1 : Int32)), .unset, .unset, .unset, .unset, .unset, .unset, .unset, .unset, .unset, .unset, .unset, .unset, .unset, .unset, .unset, .unset, .unset] [(.int (1 : Int32))])) _
          refine XS.goto X0.here hx rfl (pc0 := 20) (pc' := 24) rfl (hb hby at_20) (by decide) (by decide) ?_
          show Steps p.tables e below (s₁.setTop (mkF m 24 #[.val (.int p0), .val (.int p1), .val (.int p2), .val (.int p3), .val (.int (1 : Int32)), .unset, .unset, .unset, .unset, .unset, .unset, .unset, .unset, .unset, .unset, .unset, .unset, .unset, .unset, .unset, .unset, .unset] [(.int (1 : Int32))])) _
          refine XS.istore X0.here hx rfl (hb hby at_24) rfl (l' := #[.val (.int p0), .val (.int p1), .val (.int p2), .val (.int p3), .val (.int (1 : Int32)), .val (.int (1 : Int32)), .unset, .unset, .unset, .unset, .unset, .unset, .unset, .unset, .unset, .unset, .unset, .unset, .unset, .unset, .unset, .unset]) rfl ?_
          show Steps p.tables e below (s₁.setTop (mkF m 26 #[.val (.int p0), .val (.int p1), .val (.int p2), .val (.int p3), .val (.int (1 : Int32)), .val (.int (1 : Int32)), .unset, .unset, .unset, .unset, .unset, .unset, .unset, .unset, .unset, .unset, .unset, .unset, .unset, .unset, .unset, .unset] [])) _
          refine XS.iload X0.here hx rfl (hb hby at_26) rfl ?_
          show Steps p.tables e below (s₁.setTop (mkF m 28 #[.val (.int p0), .val (.int p1), .val (.int p2), .val (.int p3), .val (.int (1 : Int32)), .val (.int (1 : Int32)), .unset, .unset, .unset, .unset, .unset, .unset, .unset, .unset, .unset, .unset, .unset, .unset, .unset, .unset, .unset, .unset] [(.int (1 : Int32))])) _
          refine XS.ifNo X0.here hx rfl (hb hby at_28) rfl (by decide) ?_
          show Steps p.tables e below (s₁.setTop (mkF m 31 #[.val (.int p0), .val (.int p1), .val (.int p2), .val (.int p3), .val (.int (1 : Int32)), .val (.int (1 : Int32)), .unset, .unset, .unset, .unset, .unset, .unset, .unset, .unset, .unset, .unset, .unset, .unset, .unset, .unset, .unset, .unset] [])) _
          refine XS.iconst X0.here hx rfl (hb hby at_31) ?_
          show Steps p.tables e below (s₁.setTop (mkF m 32 #[.val (.int p0), .val (.int p1), .val (.int p2), .val (.int p3), .val (.int (1 : Int32)), .val (.int (1 : Int32)), .unset, .unset, .unset, .unset, .unset, .unset, .unset, .unset, .unset, .unset, .unset, .unset, .unset, .unset, .unset, .unset] [(.int (1 : Int32))])) _
          refine XS.goto X0.here hx rfl (pc0 := 32) (pc' := 36) rfl (hb hby at_32) (by decide) (by decide) ?_
          show Steps p.tables e below (s₁.setTop (mkF m 36 #[.val (.int p0), .val (.int p1), .val (.int p2), .val (.int p3), .val (.int (1 : Int32)), .val (.int (1 : Int32)), .unset, .unset, .unset, .unset, .unset, .unset, .unset, .unset, .unset, .unset, .unset, .unset, .unset, .unset, .unset, .unset] [(.int (1 : Int32))])) _
          refine XS.istore X0.here hx rfl (hb hby at_36) rfl (l' := #[.val (.int p0), .val (.int p1), .val (.int p2), .val (.int p3), .val (.int (1 : Int32)), .val (.int (1 : Int32)), .val (.int (1 : Int32)), .unset, .unset, .unset, .unset, .unset, .unset, .unset, .unset, .unset, .unset, .unset, .unset, .unset, .unset, .unset]) rfl ?_
          show Steps p.tables e below (s₁.setTop (mkF m 38 #[.val (.int p0), .val (.int p1), .val (.int p2), .val (.int p3), .val (.int (1 : Int32)), .val (.int (1 : Int32)), .val (.int (1 : Int32)), .unset, .unset, .unset, .unset, .unset, .unset, .unset, .unset, .unset, .unset, .unset, .unset, .unset, .unset, .unset] [])) _
          refine XS.iload X0.here hx rfl (hb hby at_38) rfl ?_
          show Steps p.tables e below (s₁.setTop (mkF m 40 #[.val (.int p0), .val (.int p1), .val (.int p2), .val (.int p3), .val (.int (1 : Int32)), .val (.int (1 : Int32)), .val (.int (1 : Int32)), .unset, .unset, .unset, .unset, .unset, .unset, .unset, .unset, .unset, .unset, .unset, .unset, .unset, .unset, .unset] [(.int (1 : Int32))])) _
          refine XS.ifNo X0.here hx rfl (hb hby at_40) rfl (by decide) ?_
          show Steps p.tables e below (s₁.setTop (mkF m 43 #[.val (.int p0), .val (.int p1), .val (.int p2), .val (.int p3), .val (.int (1 : Int32)), .val (.int (1 : Int32)), .val (.int (1 : Int32)), .unset, .unset, .unset, .unset, .unset, .unset, .unset, .unset, .unset, .unset, .unset, .unset, .unset, .unset, .unset] [])) _
          refine XS.iconst X0.here hx rfl (hb hby at_43) ?_
          show Steps p.tables e below (s₁.setTop (mkF m 44 #[.val (.int p0), .val (.int p1), .val (.int p2), .val (.int p3), .val (.int (1 : Int32)), .val (.int (1 : Int32)), .val (.int (1 : Int32)), .unset, .unset, .unset, .unset, .unset, .unset, .unset, .unset, .unset, .unset, .unset, .unset, .unset, .unset, .unset] [(.int (0 : Int32))])) _
          refine XS.goto X0.here hx rfl (pc0 := 44) (pc' := 48) rfl (hb hby at_44) (by decide) (by decide) ?_
          show Steps p.tables e below (s₁.setTop (mkF m 48 #[.val (.int p0), .val (.int p1), .val (.int p2), .val (.int p3), .val (.int (1 : Int32)), .val (.int (1 : Int32)), .val (.int (1 : Int32)), .unset, .unset, .unset, .unset, .unset, .unset, .unset, .unset, .unset, .unset, .unset, .unset, .unset, .unset, .unset] [(.int (0 : Int32))])) _
          refine XS.istore X0.here hx rfl (hb hby at_48) rfl (l' := #[.val (.int p0), .val (.int p1), .val (.int p2), .val (.int p3), .val (.int (1 : Int32)), .val (.int (1 : Int32)), .val (.int (1 : Int32)), .val (.int (0 : Int32)), .unset, .unset, .unset, .unset, .unset, .unset, .unset, .unset, .unset, .unset, .unset, .unset, .unset, .unset]) rfl ?_
          show Steps p.tables e below (s₁.setTop (mkF m 50 #[.val (.int p0), .val (.int p1), .val (.int p2), .val (.int p3), .val (.int (1 : Int32)), .val (.int (1 : Int32)), .val (.int (1 : Int32)), .val (.int (0 : Int32)), .unset, .unset, .unset, .unset, .unset, .unset, .unset, .unset, .unset, .unset, .unset, .unset, .unset, .unset] [])) _
          refine XS.iload X0.here hx rfl (hb hby at_50) rfl ?_
          show Steps p.tables e below (s₁.setTop (mkF m 52 #[.val (.int p0), .val (.int p1), .val (.int p2), .val (.int p3), .val (.int (1 : Int32)), .val (.int (1 : Int32)), .val (.int (1 : Int32)), .val (.int (0 : Int32)), .unset, .unset, .unset, .unset, .unset, .unset, .unset, .unset, .unset, .unset, .unset, .unset, .unset, .unset] [(.int (1 : Int32))])) _
          refine XS.ifNo X0.here hx rfl (hb hby at_52) rfl (by decide) ?_
          show Steps p.tables e below (s₁.setTop (mkF m 55 #[.val (.int p0), .val (.int p1), .val (.int p2), .val (.int p3), .val (.int (1 : Int32)), .val (.int (1 : Int32)), .val (.int (1 : Int32)), .val (.int (0 : Int32)), .unset, .unset, .unset, .unset, .unset, .unset, .unset, .unset, .unset, .unset, .unset, .unset, .unset, .unset] [])) _
          refine XS.iconst X0.here hx rfl (hb hby at_55) ?_
          show Steps p.tables e below (s₁.setTop (mkF m 56 #[.val (.int p0), .val (.int p1), .val (.int p2), .val (.int p3), .val (.int (1 : Int32)), .val (.int (1 : Int32)), .val (.int (1 : Int32)), .val (.int (0 : Int32)), .unset, .unset, .unset, .unset, .unset, .unset, .unset, .unset, .unset, .unset, .unset, .unset, .unset, .unset] [(.int (2 : Int32))])) _
          refine XS.goto X0.here hx rfl (pc0 := 56) (pc' := 60) rfl (hb hby at_56) (by decide) (by decide) ?_
          show Steps p.tables e below (s₁.setTop (mkF m 60 #[.val (.int p0), .val (.int p1), .val (.int p2), .val (.int p3), .val (.int (1 : Int32)), .val (.int (1 : Int32)), .val (.int (1 : Int32)), .val (.int (0 : Int32)), .unset, .unset, .unset, .unset, .unset, .unset, .unset, .unset, .unset, .unset, .unset, .unset, .unset, .unset] [(.int (2 : Int32))])) _
          refine XS.istore X0.here hx rfl (hb hby at_60) rfl (l' := #[.val (.int p0), .val (.int p1), .val (.int p2), .val (.int p3), .val (.int (1 : Int32)), .val (.int (1 : Int32)), .val (.int (1 : Int32)), .val (.int (0 : Int32)), .val (.int (2 : Int32)), .unset, .unset, .unset, .unset, .unset, .unset, .unset, .unset, .unset, .unset, .unset, .unset, .unset]) rfl ?_
          show Steps p.tables e below (s₁.setTop (mkF m 62 #[.val (.int p0), .val (.int p1), .val (.int p2), .val (.int p3), .val (.int (1 : Int32)), .val (.int (1 : Int32)), .val (.int (1 : Int32)), .val (.int (0 : Int32)), .val (.int (2 : Int32)), .unset, .unset, .unset, .unset, .unset, .unset, .unset, .unset, .unset, .unset, .unset, .unset, .unset] [])) _
          refine XS.iload X0.here hx rfl (hb hby at_62) rfl ?_
          show Steps p.tables e below (s₁.setTop (mkF m 64 #[.val (.int p0), .val (.int p1), .val (.int p2), .val (.int p3), .val (.int (1 : Int32)), .val (.int (1 : Int32)), .val (.int (1 : Int32)), .val (.int (0 : Int32)), .val (.int (2 : Int32)), .unset, .unset, .unset, .unset, .unset, .unset, .unset, .unset, .unset, .unset, .unset, .unset, .unset] [(.int (1 : Int32))])) _
          refine XS.ifNo X0.here hx rfl (hb hby at_64) rfl (by decide) ?_
          show Steps p.tables e below (s₁.setTop (mkF m 67 #[.val (.int p0), .val (.int p1), .val (.int p2), .val (.int p3), .val (.int (1 : Int32)), .val (.int (1 : Int32)), .val (.int (1 : Int32)), .val (.int (0 : Int32)), .val (.int (2 : Int32)), .unset, .unset, .unset, .unset, .unset, .unset, .unset, .unset, .unset, .unset, .unset, .unset, .unset] [])) _
          refine XS.iconst X0.here hx rfl (hb hby at_67) ?_
          show Steps p.tables e below (s₁.setTop (mkF m 68 #[.val (.int p0), .val (.int p1), .val (.int p2), .val (.int p3), .val (.int (1 : Int32)), .val (.int (1 : Int32)), .val (.int (1 : Int32)), .val (.int (0 : Int32)), .val (.int (2 : Int32)), .unset, .unset, .unset, .unset, .unset, .unset, .unset, .unset, .unset, .unset, .unset, .unset, .unset] [(.int (3 : Int32))])) _
          refine XS.goto X0.here hx rfl (pc0 := 68) (pc' := 72) rfl (hb hby at_68) (by decide) (by decide) ?_
          show Steps p.tables e below (s₁.setTop (mkF m 72 #[.val (.int p0), .val (.int p1), .val (.int p2), .val (.int p3), .val (.int (1 : Int32)), .val (.int (1 : Int32)), .val (.int (1 : Int32)), .val (.int (0 : Int32)), .val (.int (2 : Int32)), .unset, .unset, .unset, .unset, .unset, .unset, .unset, .unset, .unset, .unset, .unset, .unset, .unset] [(.int (3 : Int32))])) _
          refine XS.istore X0.here hx rfl (hb hby at_72) rfl (l' := #[.val (.int p0), .val (.int p1), .val (.int p2), .val (.int p3), .val (.int (1 : Int32)), .val (.int (1 : Int32)), .val (.int (1 : Int32)), .val (.int (0 : Int32)), .val (.int (2 : Int32)), .val (.int (3 : Int32)), .unset, .unset, .unset, .unset, .unset, .unset, .unset, .unset, .unset, .unset, .unset, .unset]) rfl ?_
          show Steps p.tables e below (s₁.setTop (mkF m 74 #[.val (.int p0), .val (.int p1), .val (.int p2), .val (.int p3), .val (.int (1 : Int32)), .val (.int (1 : Int32)), .val (.int (1 : Int32)), .val (.int (0 : Int32)), .val (.int (2 : Int32)), .val (.int (3 : Int32)), .unset, .unset, .unset, .unset, .unset, .unset, .unset, .unset, .unset, .unset, .unset, .unset] [])) _
          exact kq)
        exact ⟨(1 : Int32), (1 : Int32), (1 : Int32), (0 : Int32), (2 : Int32), (3 : Int32), (by unfold own_SV; decide), G712⟩
  obtain ⟨hSV, h5⟩ := hG702
  have hz8 : l8 ≠ 0 := by rcases hSV with ⟨-, -, -, rfl, -⟩ | ⟨-, -, -, rfl, -⟩ <;> decide
  have hz9 : l9 ≠ 0 := by rcases hSV with ⟨-, -, -, -, rfl⟩ | ⟨-, -, -, -, rfl⟩ <;> decide
  have G713 : Go p e below A0 (s₁.setTop (mkF m 101 #[.val (.int p0), .val (.int p1), .val (.int p2), .val (.int p3), .val (.int l4), .val (.int l5), .val (.int l6), .val (.int l7), .val (.int l8), .val (.int l9), .val (.int ((p0 &&& (2147483647 : Int32)) % l8)), .val (.int ((p1 &&& (2147483647 : Int32)) % l8)), .val (.int ((p2 &&& (2147483647 : Int32)) % l9)), .unset, .unset, .unset, .unset, .unset, .unset, .unset, .unset, .unset] [])) := fun tq kq => G702 tq (by
    refine XS.iloadN X0.here hx rfl (hb hby at_74) rfl ?_
    show Steps p.tables e below (s₁.setTop (mkF m 75 #[.val (.int p0), .val (.int p1), .val (.int p2), .val (.int p3), .val (.int l4), .val (.int l5), .val (.int l6), .val (.int l7), .val (.int l8), .val (.int l9), .unset, .unset, .unset, .unset, .unset, .unset, .unset, .unset, .unset, .unset, .unset, .unset] [(.int p0)])) _
    refine X0.ldcInt hx hown (mvT hZ (hw _ (List.mem_of_getElem? (i := 0) rfl))) (g := (mkF m 75 #[.val (.int p0), .val (.int p1), .val (.int p2), .val (.int p3), .val (.int l4), .val (.int l5), .val (.int l6), .val (.int l7), .val (.int l8), .val (.int l9), .unset, .unset, .unset, .unset, .unset, .unset, .unset, .unset, .unset, .unset, .unset, .unset] [(.int p0)])) rfl (hb hby at_75) _ ?_
    show Steps p.tables e below (s₁.setTop (mkF m 77 #[.val (.int p0), .val (.int p1), .val (.int p2), .val (.int p3), .val (.int l4), .val (.int l5), .val (.int l6), .val (.int l7), .val (.int l8), .val (.int l9), .unset, .unset, .unset, .unset, .unset, .unset, .unset, .unset, .unset, .unset, .unset, .unset] [(.int (2147483647 : Int32)), (.int p0)])) _
    refine XS.iand X0.here hx rfl (hb hby at_77) rfl ?_
    show Steps p.tables e below (s₁.setTop (mkF m 78 #[.val (.int p0), .val (.int p1), .val (.int p2), .val (.int p3), .val (.int l4), .val (.int l5), .val (.int l6), .val (.int l7), .val (.int l8), .val (.int l9), .unset, .unset, .unset, .unset, .unset, .unset, .unset, .unset, .unset, .unset, .unset, .unset] [(.int (p0 &&& (2147483647 : Int32)))])) _
    refine XS.iload X0.here hx rfl (hb hby at_78) rfl ?_
    show Steps p.tables e below (s₁.setTop (mkF m 80 #[.val (.int p0), .val (.int p1), .val (.int p2), .val (.int p3), .val (.int l4), .val (.int l5), .val (.int l6), .val (.int l7), .val (.int l8), .val (.int l9), .unset, .unset, .unset, .unset, .unset, .unset, .unset, .unset, .unset, .unset, .unset, .unset] [(.int l8), (.int (p0 &&& (2147483647 : Int32)))])) _
    refine iremM X0 hx rfl (hb hby at_80) rfl hz8 ?_
    show Steps p.tables e below (s₁.setTop (mkF m 81 #[.val (.int p0), .val (.int p1), .val (.int p2), .val (.int p3), .val (.int l4), .val (.int l5), .val (.int l6), .val (.int l7), .val (.int l8), .val (.int l9), .unset, .unset, .unset, .unset, .unset, .unset, .unset, .unset, .unset, .unset, .unset, .unset] [(.int ((p0 &&& (2147483647 : Int32)) % l8))])) _
    refine XS.istore X0.here hx rfl (hb hby at_81) rfl (l' := #[.val (.int p0), .val (.int p1), .val (.int p2), .val (.int p3), .val (.int l4), .val (.int l5), .val (.int l6), .val (.int l7), .val (.int l8), .val (.int l9), .val (.int ((p0 &&& (2147483647 : Int32)) % l8)), .unset, .unset, .unset, .unset, .unset, .unset, .unset, .unset, .unset, .unset, .unset]) rfl ?_
    show Steps p.tables e below (s₁.setTop (mkF m 83 #[.val (.int p0), .val (.int p1), .val (.int p2), .val (.int p3), .val (.int l4), .val (.int l5), .val (.int l6), .val (.int l7), .val (.int l8), .val (.int l9), .val (.int ((p0 &&& (2147483647 : Int32)) % l8)), .unset, .unset, .unset, .unset, .unset, .unset, .unset, .unset, .unset, .unset, .unset] [])) _
    refine XS.iloadN X0.here hx rfl (hb hby at_83) rfl ?_
    show Steps p.tables e below (s₁.setTop (mkF m 84 #[.val (.int p0), .val (.int p1), .val (.int p2), .val (.int p3), .val (.int l4), .val (.int l5), .val (.int l6), .val (.int l7), .val (.int l8), .val (.int l9), .val (.int ((p0 &&& (2147483647 : Int32)) % l8)), .unset, .unset, .unset, .unset, .unset, .unset, .unset, .unset, .unset, .unset, .unset] [(.int p1)])) _
    refine X0.ldcInt hx hown (mvT hZ (hw _ (List.mem_of_getElem? (i := 0) rfl))) (g := (mkF m 84 #[.val (.int p0), .val (.int p1), .val (.int p2), .val (.int p3), .val (.int l4), .val (.int l5), .val (.int l6), .val (.int l7), .val (.int l8), .val (.int l9), .val (.int ((p0 &&& (2147483647 : Int32)) % l8)), .unset, .unset, .unset, .unset, .unset, .unset, .unset, .unset, .unset, .unset, .unset] [(.int p1)])) rfl (hb hby at_84) _ ?_
    show Steps p.tables e below (s₁.setTop (mkF m 86 #[.val (.int p0), .val (.int p1), .val (.int p2), .val (.int p3), .val (.int l4), .val (.int l5), .val (.int l6), .val (.int l7), .val (.int l8), .val (.int l9), .val (.int ((p0 &&& (2147483647 : Int32)) % l8)), .unset, .unset, .unset, .unset, .unset, .unset, .unset, .unset, .unset, .unset, .unset] [(.int (2147483647 : Int32)), (.int p1)])) _
    refine XS.iand X0.here hx rfl (hb hby at_86) rfl ?_
    show Steps p.tables e below (s₁.setTop (mkF m 87 #[.val (.int p0), .val (.int p1), .val (.int p2), .val (.int p3), .val (.int l4), .val (.int l5), .val (.int l6), .val (.int l7), .val (.int l8), .val (.int l9), .val (.int ((p0 &&& (2147483647 : Int32)) % l8)), .unset, .unset, .unset, .unset, .unset, .unset, .unset, .unset, .unset, .unset, .unset] [(.int (p1 &&& (2147483647 : Int32)))])) _
    refine XS.iload X0.here hx rfl (hb hby at_87) rfl ?_
    show Steps p.tables e below (s₁.setTop (mkF m 89 #[.val (.int p0), .val (.int p1), .val (.int p2), .val (.int p3), .val (.int l4), .val (.int l5), .val (.int l6), .val (.int l7), .val (.int l8), .val (.int l9), .val (.int ((p0 &&& (2147483647 : Int32)) % l8)), .unset, .unset, .unset, .unset, .unset, .unset, .unset, .unset, .unset, .unset, .unset] [(.int l8), (.int (p1 &&& (2147483647 : Int32)))])) _
    refine iremM X0 hx rfl (hb hby at_89) rfl hz8 ?_
    show Steps p.tables e below (s₁.setTop (mkF m 90 #[.val (.int p0), .val (.int p1), .val (.int p2), .val (.int p3), .val (.int l4), .val (.int l5), .val (.int l6), .val (.int l7), .val (.int l8), .val (.int l9), .val (.int ((p0 &&& (2147483647 : Int32)) % l8)), .unset, .unset, .unset, .unset, .unset, .unset, .unset, .unset, .unset, .unset, .unset] [(.int ((p1 &&& (2147483647 : Int32)) % l8))])) _
    refine XS.istore X0.here hx rfl (hb hby at_90) rfl (l' := #[.val (.int p0), .val (.int p1), .val (.int p2), .val (.int p3), .val (.int l4), .val (.int l5), .val (.int l6), .val (.int l7), .val (.int l8), .val (.int l9), .val (.int ((p0 &&& (2147483647 : Int32)) % l8)), .val (.int ((p1 &&& (2147483647 : Int32)) % l8)), .unset, .unset, .unset, .unset, .unset, .unset, .unset, .unset, .unset, .unset]) rfl ?_
    show Steps p.tables e below (s₁.setTop (mkF m 92 #[.val (.int p0), .val (.int p1), .val (.int p2), .val (.int p3), .val (.int l4), .val (.int l5), .val (.int l6), .val (.int l7), .val (.int l8), .val (.int l9), .val (.int ((p0 &&& (2147483647 : Int32)) % l8)), .val (.int ((p1 &&& (2147483647 : Int32)) % l8)), .unset, .unset, .unset, .unset, .unset, .unset, .unset, .unset, .unset, .unset] [])) _
    refine XS.iloadN X0.here hx rfl (hb hby at_92) rfl ?_
    show Steps p.tables e below (s₁.setTop (mkF m 93 #[.val (.int p0), .val (.int p1), .val (.int p2), .val (.int p3), .val (.int l4), .val (.int l5), .val (.int l6), .val (.int l7), .val (.int l8), .val (.int l9), .val (.int ((p0 &&& (2147483647 : Int32)) % l8)), .val (.int ((p1 &&& (2147483647 : Int32)) % l8)), .unset, .unset, .unset, .unset, .unset, .unset, .unset, .unset, .unset, .unset] [(.int p2)])) _
    refine X0.ldcInt hx hown (mvT hZ (hw _ (List.mem_of_getElem? (i := 0) rfl))) (g := (mkF m 93 #[.val (.int p0), .val (.int p1), .val (.int p2), .val (.int p3), .val (.int l4), .val (.int l5), .val (.int l6), .val (.int l7), .val (.int l8), .val (.int l9), .val (.int ((p0 &&& (2147483647 : Int32)) % l8)), .val (.int ((p1 &&& (2147483647 : Int32)) % l8)), .unset, .unset, .unset, .unset, .unset, .unset, .unset, .unset, .unset, .unset] [(.int p2)])) rfl (hb hby at_93) _ ?_
    show Steps p.tables e below (s₁.setTop (mkF m 95 #[.val (.int p0), .val (.int p1), .val (.int p2), .val (.int p3), .val (.int l4), .val (.int l5), .val (.int l6), .val (.int l7), .val (.int l8), .val (.int l9), .val (.int ((p0 &&& (2147483647 : Int32)) % l8)), .val (.int ((p1 &&& (2147483647 : Int32)) % l8)), .unset, .unset, .unset, .unset, .unset, .unset, .unset, .unset, .unset, .unset] [(.int (2147483647 : Int32)), (.int p2)])) _
    refine XS.iand X0.here hx rfl (hb hby at_95) rfl ?_
    show Steps p.tables e below (s₁.setTop (mkF m 96 #[.val (.int p0), .val (.int p1), .val (.int p2), .val (.int p3), .val (.int l4), .val (.int l5), .val (.int l6), .val (.int l7), .val (.int l8), .val (.int l9), .val (.int ((p0 &&& (2147483647 : Int32)) % l8)), .val (.int ((p1 &&& (2147483647 : Int32)) % l8)), .unset, .unset, .unset, .unset, .unset, .unset, .unset, .unset, .unset, .unset] [(.int (p2 &&& (2147483647 : Int32)))])) _
    refine XS.iload X0.here hx rfl (hb hby at_96) rfl ?_
    show Steps p.tables e below (s₁.setTop (mkF m 98 #[.val (.int p0), .val (.int p1), .val (.int p2), .val (.int p3), .val (.int l4), .val (.int l5), .val (.int l6), .val (.int l7), .val (.int l8), .val (.int l9), .val (.int ((p0 &&& (2147483647 : Int32)) % l8)), .val (.int ((p1 &&& (2147483647 : Int32)) % l8)), .unset, .unset, .unset, .unset, .unset, .unset, .unset, .unset, .unset, .unset] [(.int l9), (.int (p2 &&& (2147483647 : Int32)))])) _
    refine iremM X0 hx rfl (hb hby at_98) rfl hz9 ?_
    show Steps p.tables e below (s₁.setTop (mkF m 99 #[.val (.int p0), .val (.int p1), .val (.int p2), .val (.int p3), .val (.int l4), .val (.int l5), .val (.int l6), .val (.int l7), .val (.int l8), .val (.int l9), .val (.int ((p0 &&& (2147483647 : Int32)) % l8)), .val (.int ((p1 &&& (2147483647 : Int32)) % l8)), .unset, .unset, .unset, .unset, .unset, .unset, .unset, .unset, .unset, .unset] [(.int ((p2 &&& (2147483647 : Int32)) % l9))])) _
    refine XS.istore X0.here hx rfl (hb hby at_99) rfl (l' := #[.val (.int p0), .val (.int p1), .val (.int p2), .val (.int p3), .val (.int l4), .val (.int l5), .val (.int l6), .val (.int l7), .val (.int l8), .val (.int l9), .val (.int ((p0 &&& (2147483647 : Int32)) % l8)), .val (.int ((p1 &&& (2147483647 : Int32)) % l8)), .val (.int ((p2 &&& (2147483647 : Int32)) % l9)), .unset, .unset, .unset, .unset, .unset, .unset, .unset, .unset, .unset]) rfl ?_
    show Steps p.tables e below (s₁.setTop (mkF m 101 #[.val (.int p0), .val (.int p1), .val (.int p2), .val (.int p3), .val (.int l4), .val (.int l5), .val (.int l6), .val (.int l7), .val (.int l8), .val (.int l9), .val (.int ((p0 &&& (2147483647 : Int32)) % l8)), .val (.int ((p1 &&& (2147483647 : Int32)) % l8)), .val (.int ((p2 &&& (2147483647 : Int32)) % l9)), .unset, .unset, .unset, .unset, .unset, .unset, .unset, .unset, .unset] [])) _
    exact kq)
  obtain ⟨T714, h714, X714, e714, E714, A714, D714, -, st714⟩ := newO X0 hx hZ hown (hw _ (List.mem_of_getElem? (i := 1) rfl)) (hw _ (List.mem_of_getElem? (i := 2) rfl)) (hw _ (List.mem_of_getElem? (i := 3) rfl)) e0 (g := (mkF m 101 #[.val (.int p0), .val (.int p1), .val (.int p2), .val (.int p3), .val (.int l4), .val (.int l5), .val (.int l6), .val (.int l7), .val (.int l8), .val (.int l9), .val (.int ((p0 &&& (2147483647 : Int32)) % l8)), .val (.int ((p1 &&& (2147483647 : Int32)) % l8)), .val (.int ((p2 &&& (2147483647 : Int32)) % l9)), .unset, .unset, .unset, .unset, .unset, .unset, .unset, .unset, .unset] [])) rfl (hb hby at_101) (by decide) (by decide)
  obtain ⟨b714, g714⟩ : ∃ z, z = h0.size := ⟨_, rfl⟩
  rw [← g714] at A714 D714 st714
  have sz_b714 : h0.size ≤ b714 := Nat.le_trans (Nat.le_refl h0.size) (Nat.le_of_eq g714.symm)
  have g_b714 : n0 ≤ b714 := Nat.le_trans Z0 (Nat.le_of_eq g714.symm)
  have F714_modCount : Fld Z h714 b714 "java/util/AbstractList" "modCount" "I" (.int (0 : Int32)) := D714 (Or.inl (hw _ (List.mem_of_getElem? (i := 23) rfl))) (ty := .int) (by decide)
  have F714_elementData : Fld Z h714 b714 "java/util/ArrayList" "elementData" "[Ljava/lang/Object;" .null := D714 (Or.inl (hw _ (List.mem_of_getElem? (i := 26) rfl))) (ty := (.array (.object "java/lang/Object"))) (by decide)
  have F714_size : Fld Z h714 b714 "java/util/ArrayList" "size" "I" (.int (0 : Int32)) := D714 (Or.inl (hw _ (List.mem_of_getElem? (i := 61) rfl))) (ty := .int) (by decide)
  have G715 : Go p e below A0 (T714.setTop (mkF m 104 #[.val (.int p0), .val (.int p1), .val (.int p2), .val (.int p3), .val (.int l4), .val (.int l5), .val (.int l6), .val (.int l7), .val (.int l8), .val (.int l9), .val (.int ((p0 &&& (2147483647 : Int32)) % l8)), .val (.int ((p1 &&& (2147483647 : Int32)) % l8)), .val (.int ((p2 &&& (2147483647 : Int32)) % l9)), .unset, .unset, .unset, .unset, .unset, .unset, .unset, .unset, .unset] [(.ref b714)])) := fun tq kq => G713 tq (st714 _ kq)
  have G716 : Go p e below A0 (T714.setTop (mkF m 105 #[.val (.int p0), .val (.int p1), .val (.int p2), .val (.int p3), .val (.int l4), .val (.int l5), .val (.int l6), .val (.int l7), .val (.int l8), .val (.int l9), .val (.int ((p0 &&& (2147483647 : Int32)) % l8)), .val (.int ((p1 &&& (2147483647 : Int32)) % l8)), .val (.int ((p2 &&& (2147483647 : Int32)) % l9)), .unset, .unset, .unset, .unset, .unset, .unset, .unset, .unset, .unset] [(.ref b714), (.ref b714)])) := fun tq kq => G715 tq (by
    refine XS.dup X714.here hx rfl (hb hby at_104) rfl rfl ?_
    show Steps p.tables e below (T714.setTop (mkF m 105 #[.val (.int p0), .val (.int p1), .val (.int p2), .val (.int p3), .val (.int l4), .val (.int l5), .val (.int l6), .val (.int l7), .val (.int l8), .val (.int l9), .val (.int ((p0 &&& (2147483647 : Int32)) % l8)), .val (.int ((p1 &&& (2147483647 : Int32)) % l8)), .val (.int ((p2 &&& (2147483647 : Int32)) % l9)), .unset, .unset, .unset, .unset, .unset, .unset, .unset, .unset, .unset] [(.ref b714), (.ref b714)])) _
    exact kq)
  have f718 := (Nat.le_trans Z0 E714.1)
  have f719 := (hold.ext E714)
  obtain ⟨_, _, ⟨T717, L717, k717, n717⟩, -, X717, ⟨Lc717, hQ717, l717, y717, z717⟩, st717⟩ := X714.specialBack hx (y := (⟨"java/util/ArrayList", "<init>", "()V"⟩ : MethodName)) rfl hown (mvT hZ (hw _ (List.mem_of_getElem? (i := 4) rfl))) (mvT hZ (hw _ (List.mem_of_getElem? (i := 5) rfl))) (mvT hZ (hw _ (List.mem_of_getElem? (i := 6) rfl))) (by decide) (backOf (W := 1) (rm1 l Z a0 hw [] b714 da h714 n0 f718 A714 g_b714 F714_modCount F714_elementData F714_size f719 hSd) hZ (hw _ (List.mem_of_getElem? (i := 6) rfl)) (hw _ (List.mem_of_getElem? (i := 3) rfl)) (by decide) (by decide)) (g := (mkF m 105 #[.val (.int p0), .val (.int p1), .val (.int p2), .val (.int p3), .val (.int l4), .val (.int l5), .val (.int l6), .val (.int l7), .val (.int l8), .val (.int l9), .val (.int ((p0 &&& (2147483647 : Int32)) % l8)), .val (.int ((p1 &&& (2147483647 : Int32)) % l8)), .val (.int ((p2 &&& (2147483647 : Int32)) % l9)), .unset, .unset, .unset, .unset, .unset, .unset, .unset, .unset, .unset] [(.ref b714), (.ref b714)])) rfl (by rw [hml]; rfl) (Steps.refl _) (a := b714) (argsL := []) (rest := [(.ref b714)]) (lenOf pd_0 rfl) rfl (by show 2 * 0 + _ ≤ _; exact Nat.le_of_eq rfl) (hb hby at_105) (fun _ _ => ⟨rfl, e714, (by decide : 1 + 0 ≤ _), (by decide : 3 + 0 ≤ _)⟩)
  dsimp only [Pt.U, Pt.locs, Pt.cells, Pt.slots] at X717 l717 y717 z717 st717 hQ717
  obtain rfl : k717 = 1 := y717
  obtain rfl : n717 = 3 := z717
  obtain ⟨rfl, N717q, K717, Fx717_0, Fx717_1, Fx717_2⟩ := hQ717
  have N717 : Fr n0 L717 := by rw [l717]; exact Fr.app N0 N717q
  have G720 : Go p e below A0 (T717.setTop (mkF m 108 #[.val (.int p0), .val (.int p1), .val (.int p2), .val (.int p3), .val (.int l4), .val (.int l5), .val (.int l6), .val (.int l7), .val (.int l8), .val (.int l9), .val (.int ((p0 &&& (2147483647 : Int32)) % l8)), .val (.int ((p1 &&& (2147483647 : Int32)) % l8)), .val (.int ((p2 &&& (2147483647 : Int32)) % l9)), .unset, .unset, .unset, .unset, .unset, .unset, .unset, .unset, .unset] [(.ref b714)])) := fun tq kq => G716 tq (st717.trans kq)
  have G721 : Go p e below A0 (T717.setTop (mkF m 112 #[.val (.int p0), .val (.int p1), .val (.int p2), .val (.int p3), .val (.int l4), .val (.int l5), .val (.int l6), .val (.int l7), .val (.int l8), .val (.int l9), .val (.int ((p0 &&& (2147483647 : Int32)) % l8)), .val (.int ((p1 &&& (2147483647 : Int32)) % l8)), .val (.int ((p2 &&& (2147483647 : Int32)) % l9)), .val (.ref b714), .unset, .unset, .unset, .unset, .unset, .unset, .unset, .unset] [(.ref b714)])) := fun tq kq => G720 tq (by
    refine XS.astore X717.here hx rfl (hb hby at_108) rfl rfl (l' := #[.val (.int p0), .val (.int p1), .val (.int p2), .val (.int p3), .val (.int l4), .val (.int l5), .val (.int l6), .val (.int l7), .val (.int l8), .val (.int l9), .val (.int ((p0 &&& (2147483647 : Int32)) % l8)), .val (.int ((p1 &&& (2147483647 : Int32)) % l8)), .val (.int ((p2 &&& (2147483647 : Int32)) % l9)), .val (.ref b714), .unset, .unset, .unset, .unset, .unset, .unset, .unset, .unset]) rfl ?_
    show Steps p.tables e below (T717.setTop (mkF m 110 #[.val (.int p0), .val (.int p1), .val (.int p2), .val (.int p3), .val (.int l4), .val (.int l5), .val (.int l6), .val (.int l7), .val (.int l8), .val (.int l9), .val (.int ((p0 &&& (2147483647 : Int32)) % l8)), .val (.int ((p1 &&& (2147483647 : Int32)) % l8)), .val (.int ((p2 &&& (2147483647 : Int32)) % l9)), .val (.ref b714), .unset, .unset, .unset, .unset, .unset, .unset, .unset, .unset] [])) _
    refine XS.aload X717.here hx rfl (hb hby at_110) rfl rfl ?_
    show Steps p.tables e below (T717.setTop (mkF m 112 #[.val (.int p0), .val (.int p1), .val (.int p2), .val (.int p3), .val (.int l4), .val (.int l5), .val (.int l6), .val (.int l7), .val (.int l8), .val (.int l9), .val (.int ((p0 &&& (2147483647 : Int32)) % l8)), .val (.int ((p1 &&& (2147483647 : Int32)) % l8)), .val (.int ((p2 &&& (2147483647 : Int32)) % l9)), .val (.ref b714), .unset, .unset, .unset, .unset, .unset, .unset, .unset, .unset] [(.ref b714)])) _
    exact kq)
  have f723 := (Nat.le_trans f718 K717.1)
  obtain ⟨T722, h722, X722, e722, E722, A722, D722, -, st722⟩ := newO X717 hx hZ hown (hw _ (List.mem_of_getElem? (i := 27) rfl)) (hw _ (List.mem_of_getElem? (i := 28) rfl)) (hw _ (List.mem_of_getElem? (i := 29) rfl)) rfl (g := (mkF m 112 #[.val (.int p0), .val (.int p1), .val (.int p2), .val (.int p3), .val (.int l4), .val (.int l5), .val (.int l6), .val (.int l7), .val (.int l8), .val (.int l9), .val (.int ((p0 &&& (2147483647 : Int32)) % l8)), .val (.int ((p1 &&& (2147483647 : Int32)) % l8)), .val (.int ((p2 &&& (2147483647 : Int32)) % l9)), .val (.ref b714), .unset, .unset, .unset, .unset, .unset, .unset, .unset, .unset] [(.ref b714)])) rfl (hb hby at_112) (by decide) (by decide)
  obtain ⟨b722, g722⟩ : ∃ z, z = T717.heap.size := ⟨_, rfl⟩
  rw [← g722] at A722 D722 st722
  have f724 := (Nat.le_trans (Nat.le_trans (Nat.le_refl h0.size) E714.1) K717.1)
  have sz_b722 : h0.size ≤ b722 := Nat.le_trans f724 (Nat.le_of_eq g722.symm)
  have g_b722 : n0 ≤ b722 := Nat.le_trans f723 (Nat.le_of_eq g722.symm)
  have lt_b714_b722 : b714 < b722 := Nat.lt_of_lt_of_le (A714.keep K717).lt (Nat.le_of_eq g722.symm)
  have F722_owner : Fld Z h722 b722 "com/example/ludarc/ludarc/engine/Variable" "owner" "Lcom/example/ludarc/ludarc/engine/Network$Builder;" .null := D722 (Or.inr (hw _ (List.mem_of_getElem? (i := 44) rfl))) (ty := (.object "com/example/ludarc/ludarc/engine/Network$Builder")) (by decide)
  have F722_index : Fld Z h722 b722 "com/example/ludarc/ludarc/engine/Variable" "index" "I" (.int (0 : Int32)) := D722 (Or.inr (hw _ (List.mem_of_getElem? (i := 46) rfl))) (ty := .int) (by decide)
  have F722_name : Fld Z h722 b722 "com/example/ludarc/ludarc/engine/Variable" "name" "Ljava/lang/String;" .null := D722 (Or.inr (hw _ (List.mem_of_getElem? (i := 48) rfl))) (ty := (.object "java/lang/String")) (by decide)
  have F722_values : Fld Z h722 b722 "com/example/ludarc/ludarc/engine/Variable" "values" "[I" .null := D722 (Or.inr (hw _ (List.mem_of_getElem? (i := 50) rfl))) (ty := (.array .int)) (by decide)
  have F722_probabilities : Fld Z h722 b722 "com/example/ludarc/ludarc/engine/Variable" "probabilities" "[D" .null := D722 (Or.inr (hw _ (List.mem_of_getElem? (i := 52) rfl))) (ty := (.array .double)) (by decide)
  have G725 : Go p e below A0 (T722.setTop (mkF m 115 #[.val (.int p0), .val (.int p1), .val (.int p2), .val (.int p3), .val (.int l4), .val (.int l5), .val (.int l6), .val (.int l7), .val (.int l8), .val (.int l9), .val (.int ((p0 &&& (2147483647 : Int32)) % l8)), .val (.int ((p1 &&& (2147483647 : Int32)) % l8)), .val (.int ((p2 &&& (2147483647 : Int32)) % l9)), .val (.ref b714), .unset, .unset, .unset, .unset, .unset, .unset, .unset, .unset] [(.ref b722), (.ref b714)])) := fun tq kq => G721 tq (st722 _ kq)
  have G726 : Go p e below A0 (T722.setTop (mkF m 118 #[.val (.int p0), .val (.int p1), .val (.int p2), .val (.int p3), .val (.int l4), .val (.int l5), .val (.int l6), .val (.int l7), .val (.int l8), .val (.int l9), .val (.int ((p0 &&& (2147483647 : Int32)) % l8)), .val (.int ((p1 &&& (2147483647 : Int32)) % l8)), .val (.int ((p2 &&& (2147483647 : Int32)) % l9)), .val (.ref b714), .unset, .unset, .unset, .unset, .unset, .unset, .unset, .unset] [(.int (0 : Int32)), .null, (.ref b722), (.ref b722), (.ref b714)])) := fun tq kq => G725 tq (by
    refine XS.dup X722.here hx rfl (hb hby at_115) rfl rfl ?_
    show Steps p.tables e below (T722.setTop (mkF m 116 #[.val (.int p0), .val (.int p1), .val (.int p2), .val (.int p3), .val (.int l4), .val (.int l5), .val (.int l6), .val (.int l7), .val (.int l8), .val (.int l9), .val (.int ((p0 &&& (2147483647 : Int32)) % l8)), .val (.int ((p1 &&& (2147483647 : Int32)) % l8)), .val (.int ((p2 &&& (2147483647 : Int32)) % l9)), .val (.ref b714), .unset, .unset, .unset, .unset, .unset, .unset, .unset, .unset] [(.ref b722), (.ref b722), (.ref b714)])) _
    refine XS.aconstNull X722.here hx rfl (hb hby at_116) ?_
    show Steps p.tables e below (T722.setTop (mkF m 117 #[.val (.int p0), .val (.int p1), .val (.int p2), .val (.int p3), .val (.int l4), .val (.int l5), .val (.int l6), .val (.int l7), .val (.int l8), .val (.int l9), .val (.int ((p0 &&& (2147483647 : Int32)) % l8)), .val (.int ((p1 &&& (2147483647 : Int32)) % l8)), .val (.int ((p2 &&& (2147483647 : Int32)) % l9)), .val (.ref b714), .unset, .unset, .unset, .unset, .unset, .unset, .unset, .unset] [.null, (.ref b722), (.ref b722), (.ref b714)])) _
    refine XS.iconst X722.here hx rfl (hb hby at_117) ?_
    show Steps p.tables e below (T722.setTop (mkF m 118 #[.val (.int p0), .val (.int p1), .val (.int p2), .val (.int p3), .val (.int l4), .val (.int l5), .val (.int l6), .val (.int l7), .val (.int l8), .val (.int l9), .val (.int ((p0 &&& (2147483647 : Int32)) % l8)), .val (.int ((p1 &&& (2147483647 : Int32)) % l8)), .val (.int ((p2 &&& (2147483647 : Int32)) % l9)), .val (.ref b714), .unset, .unset, .unset, .unset, .unset, .unset, .unset, .unset] [(.int (0 : Int32)), .null, (.ref b722), (.ref b722), (.ref b714)])) _
    exact kq)
  have f728 := (Nat.le_trans (Nat.le_trans (Nat.le_trans (Nat.zero_le h0.size) E714.1) K717.1) E722.1)
  obtain ⟨a727, T727, h727, k727, X727, e727, E727, hS, hk727, hZ, hown, st727⟩ := ldcS (s := s) (vm0 := s.vm) X722 hx hZ hown (hw _ (List.mem_of_getElem? (i := 30) rfl)) hstr e722 hS f728 (g := (mkF m 118 #[.val (.int p0), .val (.int p1), .val (.int p2), .val (.int p3), .val (.int l4), .val (.int l5), .val (.int l6), .val (.int l7), .val (.int l8), .val (.int l9), .val (.int ((p0 &&& (2147483647 : Int32)) % l8)), .val (.int ((p1 &&& (2147483647 : Int32)) % l8)), .val (.int ((p2 &&& (2147483647 : Int32)) % l9)), .val (.ref b714), .unset, .unset, .unset, .unset, .unset, .unset, .unset, .unset] [(.int (0 : Int32)), .null, (.ref b722), (.ref b722), (.ref b714)])) rfl (hb hby at_118) (n := 4) (by decide) (by decide) (by decide) (by decide)
  have G729 : Go p e below A0 (T727.setTop (mkF m 120 #[.val (.int p0), .val (.int p1), .val (.int p2), .val (.int p3), .val (.int l4), .val (.int l5), .val (.int l6), .val (.int l7), .val (.int l8), .val (.int l9), .val (.int ((p0 &&& (2147483647 : Int32)) % l8)), .val (.int ((p1 &&& (2147483647 : Int32)) % l8)), .val (.int ((p2 &&& (2147483647 : Int32)) % l9)), .val (.ref b714), .unset, .unset, .unset, .unset, .unset, .unset, .unset, .unset] [(.ref a727), (.int (0 : Int32)), .null, (.ref b722), (.ref b722), (.ref b714)])) := fun tq kq => G726 tq (st727 _ kq)
  have G730 : Go p e below A0 (T727.setTop (mkF m 121 #[.val (.int p0), .val (.int p1), .val (.int p2), .val (.int p3), .val (.int l4), .val (.int l5), .val (.int l6), .val (.int l7), .val (.int l8), .val (.int l9), .val (.int ((p0 &&& (2147483647 : Int32)) % l8)), .val (.int ((p1 &&& (2147483647 : Int32)) % l8)), .val (.int ((p2 &&& (2147483647 : Int32)) % l9)), .val (.ref b714), .unset, .unset, .unset, .unset, .unset, .unset, .unset, .unset] [(.int (3 : Int32)), (.ref a727), (.int (0 : Int32)), .null, (.ref b722), (.ref b722), (.ref b714)])) := fun tq kq => G729 tq (by
    refine XS.iconst X727.here hx rfl (hb hby at_120) ?_
    show Steps p.tables e below (T727.setTop (mkF m 121 #[.val (.int p0), .val (.int p1), .val (.int p2), .val (.int p3), .val (.int l4), .val (.int l5), .val (.int l6), .val (.int l7), .val (.int l8), .val (.int l9), .val (.int ((p0 &&& (2147483647 : Int32)) % l8)), .val (.int ((p1 &&& (2147483647 : Int32)) % l8)), .val (.int ((p2 &&& (2147483647 : Int32)) % l9)), .val (.ref b714), .unset, .unset, .unset, .unset, .unset, .unset, .unset, .unset] [(.int (3 : Int32)), (.ref a727), (.int (0 : Int32)), .null, (.ref b722), (.ref b722), (.ref b714)])) _
    exact kq)
  have f732 := (Nat.le_trans (Nat.le_trans f723 E722.1) E727.1)
  obtain ⟨T731, h731, k731, X731, e731, E731, A731, st731⟩ := newP X727 hx hZ (hw _ (List.mem_of_getElem? (i := 38) rfl)) e727 (g := (mkF m 121 #[.val (.int p0), .val (.int p1), .val (.int p2), .val (.int p3), .val (.int l4), .val (.int l5), .val (.int l6), .val (.int l7), .val (.int l8), .val (.int l9), .val (.int ((p0 &&& (2147483647 : Int32)) % l8)), .val (.int ((p1 &&& (2147483647 : Int32)) % l8)), .val (.int ((p2 &&& (2147483647 : Int32)) % l9)), .val (.ref b714), .unset, .unset, .unset, .unset, .unset, .unset, .unset, .unset] [(.int (3 : Int32)), (.ref a727), (.int (0 : Int32)), .null, (.ref b722), (.ref b722), (.ref b714)])) rfl (hb hby at_121) rfl (by decide) (cap := 3) (by decide) (by decide) (by decide) (by decide)
  obtain ⟨b731, g731⟩ : ∃ z, z = h727.size := ⟨_, rfl⟩
  rw [← g731] at A731 st731
  have f733 := (Nat.le_trans (Nat.le_trans f724 E722.1) E727.1)
  have sz_b731 : h0.size ≤ b731 := Nat.le_trans f733 (Nat.le_of_eq g731.symm)
  have g_b731 : n0 ≤ b731 := Nat.le_trans f732 (Nat.le_of_eq g731.symm)
  have lt_b714_b731 : b714 < b731 := Nat.lt_of_lt_of_le (((A714.keep K717).ext E722).ext E727).lt (Nat.le_of_eq g731.symm)
  have lt_b722_b731 : b722 < b731 := Nat.lt_of_lt_of_le (A722.ext E727).lt (Nat.le_of_eq g731.symm)
  have V731 : Arv Z h731 b731 k731 .int (3 : Int32) [(.int (0 : Int32)), (.int (0 : Int32)), (.int (0 : Int32))] (.int (0 : Int32)) := (Arv.new A731 (by decide)).pad (pad_rep [] (.int (0 : Int32)) 3)
  have G734 : Go p e below A0 (T731.setTop (mkF m 123 #[.val (.int p0), .val (.int p1), .val (.int p2), .val (.int p3), .val (.int l4), .val (.int l5), .val (.int l6), .val (.int l7), .val (.int l8), .val (.int l9), .val (.int ((p0 &&& (2147483647 : Int32)) % l8)), .val (.int ((p1 &&& (2147483647 : Int32)) % l8)), .val (.int ((p2 &&& (2147483647 : Int32)) % l9)), .val (.ref b714), .unset, .unset, .unset, .unset, .unset, .unset, .unset, .unset] [(.ref b731), (.ref a727), (.int (0 : Int32)), .null, (.ref b722), (.ref b722), (.ref b714)])) := fun tq kq => G730 tq (st731 _ kq)
  have G735 : Go p e below A0 (T731.setTop (mkF m 124 #[.val (.int p0), .val (.int p1), .val (.int p2), .val (.int p3), .val (.int l4), .val (.int l5), .val (.int l6), .val (.int l7), .val (.int l8), .val (.int l9), .val (.int ((p0 &&& (2147483647 : Int32)) % l8)), .val (.int ((p1 &&& (2147483647 : Int32)) % l8)), .val (.int ((p2 &&& (2147483647 : Int32)) % l9)), .val (.ref b714), .unset, .unset, .unset, .unset, .unset, .unset, .unset, .unset] [.null, (.ref b731), (.ref a727), (.int (0 : Int32)), .null, (.ref b722), (.ref b722), (.ref b714)])) := fun tq kq => G734 tq (by
    refine XS.aconstNull X731.here hx rfl (hb hby at_123) ?_
    show Steps p.tables e below (T731.setTop (mkF m 124 #[.val (.int p0), .val (.int p1), .val (.int p2), .val (.int p3), .val (.int l4), .val (.int l5), .val (.int l6), .val (.int l7), .val (.int l8), .val (.int l9), .val (.int ((p0 &&& (2147483647 : Int32)) % l8)), .val (.int ((p1 &&& (2147483647 : Int32)) % l8)), .val (.int ((p2 &&& (2147483647 : Int32)) % l9)), .val (.ref b714), .unset, .unset, .unset, .unset, .unset, .unset, .unset, .unset] [.null, (.ref b731), (.ref a727), (.int (0 : Int32)), .null, (.ref b722), (.ref b722), (.ref b714)])) _
    exact kq)
  have f737 := (Nat.le_trans f732 E731.1)
  have f738 := ((A722.ext E727).ext E731)
  have f739 := ((F722_owner.ext E727).ext E731)
  have f740 := ((F722_index.ext E727).ext E731)
  have f741 := ((F722_name.ext E727).ext E731)
  have f742 := ((F722_values.ext E727).ext E731)
  have f743 := ((F722_probabilities.ext E727).ext E731)
  obtain ⟨_, _, ⟨T736, L736, k736, n736⟩, -, X736, ⟨Lc736, hQ736, l736, y736, z736⟩, st736⟩ := X731.specialBack hx (y := (⟨"com/example/ludarc/ludarc/engine/Variable", "<init>", "(Lcom/example/ludarc/ludarc/engine/Network$Builder;ILjava/lang/String;[I[D)V"⟩ : MethodName)) rfl hown (mvT hZ (hw _ (List.mem_of_getElem? (i := 39) rfl))) (mvT hZ (hw _ (List.mem_of_getElem? (i := 40) rfl))) (mvT hZ (hw _ (List.mem_of_getElem? (i := 41) rfl))) (by decide) (backOf (W := 2) (rm5 l Z a0 hw [] b722 b731 a727 (0 : Int32) h731 n0 f737 f738 g_b722 f739 f740 f741 f742 f743) hZ (hw _ (List.mem_of_getElem? (i := 41) rfl)) (hw _ (List.mem_of_getElem? (i := 29) rfl)) (by decide) (by decide)) (g := (mkF m 124 #[.val (.int p0), .val (.int p1), .val (.int p2), .val (.int p3), .val (.int l4), .val (.int l5), .val (.int l6), .val (.int l7), .val (.int l8), .val (.int l9), .val (.int ((p0 &&& (2147483647 : Int32)) % l8)), .val (.int ((p1 &&& (2147483647 : Int32)) % l8)), .val (.int ((p2 &&& (2147483647 : Int32)) % l9)), .val (.ref b714), .unset, .unset, .unset, .unset, .unset, .unset, .unset, .unset] [.null, (.ref b731), (.ref a727), (.int (0 : Int32)), .null, (.ref b722), (.ref b722), (.ref b714)])) rfl (by rw [hml]; rfl) (Steps.refl _) (a := b722) (argsL := [.null, (.int (0 : Int32)), (.ref a727), (.ref b731), .null]) (rest := [(.ref b722), (.ref b714)]) (lenOf pd_8 rfl) rfl (by show 2 * 0 + _ ≤ _; exact Nat.le_of_eq rfl) (hb hby at_124) (fun _ _ => ⟨rfl, e731, (by decide : 5 + 0 ≤ _), (by decide : 19 + 0 ≤ _)⟩)
  dsimp only [Pt.U, Pt.locs, Pt.cells, Pt.slots] at X736 l736 y736 z736 st736 hQ736
  obtain rfl : k736 = 5 := y736
  obtain rfl : n736 = 19 := z736
  obtain ⟨rfl, N736q, K736, Fv736⟩ := hQ736
  have N736 : Fr n0 L736 := by rw [l736]; exact Fr.app N717 N736q
  have G744 : Go p e below A0 (T736.setTop (mkF m 127 #[.val (.int p0), .val (.int p1), .val (.int p2), .val (.int p3), .val (.int l4), .val (.int l5), .val (.int l6), .val (.int l7), .val (.int l8), .val (.int l9), .val (.int ((p0 &&& (2147483647 : Int32)) % l8)), .val (.int ((p1 &&& (2147483647 : Int32)) % l8)), .val (.int ((p2 &&& (2147483647 : Int32)) % l9)), .val (.ref b714), .unset, .unset, .unset, .unset, .unset, .unset, .unset, .unset] [(.ref b722), (.ref b714)])) := fun tq kq => G735 tq (st736.trans kq)
  have f746 := (Nat.le_trans f737 K736.1)
  have f747 := (((((A714.keep K717).ext E722).ext E727).ext E731).keep K736)
  have f748 := ((((Fx717_0.ext E722).ext E727).ext E731).keep K736 (ninS (Nat.ne_of_lt lt_b714_b722) nin0))
  have f749 := ((((Fx717_1.ext E722).ext E727).ext E731).keep K736 (ninS (Nat.ne_of_lt lt_b714_b722) nin0))
  have f750 := ((((Fx717_2.ext E722).ext E727).ext E731).keep K736 (ninS (Nat.ne_of_lt lt_b714_b722) nin0))
  have f751 := (f738.keep K736)
  have f752 := (((((f719.keep K717 (allS g_b714 all0)).ext E722).ext E727).ext E731).keep K736 (allS g_b722 all0))
  have f753 := (Nat.le_trans (Nat.le_trans f733 E731.1) K736.1)
  obtain ⟨cq745, kq745, q745a, q745b, q745c⟩ := isOf hZ rfl f747
  obtain ⟨_, _, ⟨T745, L745, k745, n745⟩, -, X745, ⟨Lc745, hQ745, l745, y745, z745⟩, st745⟩ := X736.virtualBack hx (y := (⟨"java/util/ArrayList", "add", "(Ljava/lang/Object;)Z"⟩ : MethodName)) (z := (⟨"java/util/ArrayList", "add", "(Ljava/lang/Object;)Z"⟩ : MethodName)) hown (mvT hZ (hw _ (List.mem_of_getElem? (i := 53) rfl))) (mvT hZ (hw _ (List.mem_of_getElem? (i := 54) rfl))) (notFace_of_selects (args := #[]) (mvT hZ (hw _ (List.mem_of_getElem? (i := 56) rfl)))) (mvT hZ (hw _ (List.mem_of_getElem? (i := 56) rfl))) (mvT hZ (hw _ (List.mem_of_getElem? (i := 55) rfl))) (by decide) (backOf (W := 0) (rmA1a l Z a0 hw [] b714 da b722 (0 : Int32) kd T736.heap n0 f746 f747 g_b714 f748 f749 f750 f752 hSd hAd f751 (Nat.ne_of_lt lt_b714_b722)) hZ (hw _ (List.mem_of_getElem? (i := 57) rfl)) (hw _ (List.mem_of_getElem? (i := 3) rfl)) (by decide) (by decide)) q745a q745c (g := (mkF m 127 #[.val (.int p0), .val (.int p1), .val (.int p2), .val (.int p3), .val (.int l4), .val (.int l5), .val (.int l6), .val (.int l7), .val (.int l8), .val (.int l9), .val (.int ((p0 &&& (2147483647 : Int32)) % l8)), .val (.int ((p1 &&& (2147483647 : Int32)) % l8)), .val (.int ((p2 &&& (2147483647 : Int32)) % l9)), .val (.ref b714), .unset, .unset, .unset, .unset, .unset, .unset, .unset, .unset] [(.ref b722), (.ref b714)])) rfl (by rw [hml]; rfl) (Steps.refl _) (argsL := [(.ref b722)]) (rest := []) (lenOf pd_9 rfl) rfl (by show 2 * 0 + _ ≤ _; exact Nat.le_of_eq rfl) (hb hby at_127) (fun _ _ => ⟨rfl, rfl, (by decide : 5 + 1 ≤ _), (by decide : 19 + 10 ≤ _)⟩)
  dsimp only [Pt.U, Pt.locs, Pt.cells, Pt.slots] at X745 l745 y745 z745 st745 hQ745
  obtain rfl : k745 = 6 := y745
  obtain rfl : n745 = 29 := z745
  obtain ⟨gb745, kb745, rfl, N745q, K745, hs745, hg745, Fx745_0, Fx745_1, Fx745_2, Ab745, Ov745⟩ := hQ745
  have N745 : Fr n0 L745 := by rw [l745]; exact Fr.app N736 N745q
  have lt_b714_gb745 : b714 < gb745 := Nat.lt_of_lt_of_le f747.lt hs745
  have lt_b722_gb745 : b722 < gb745 := Nat.lt_of_lt_of_le f751.lt hs745
  have lt_b731_gb745 : b731 < gb745 := Nat.lt_of_lt_of_le (V731.keep K736 (ninS (Ne.symm (Nat.ne_of_lt lt_b722_b731)) nin0)).lt hs745
  have Fx745_0x : Fld Z T745.heap b714 "java/util/AbstractList" "modCount" "I" (.int (1 : Int32)) := Fx745_0
  have sz_gb745 : h0.size ≤ gb745 := Nat.le_trans f753 hs745
  have G754 : Go p e below A0 (T745.setTop (mkF m 130 #[.val (.int p0), .val (.int p1), .val (.int p2), .val (.int p3), .val (.int l4), .val (.int l5), .val (.int l6), .val (.int l7), .val (.int l8), .val (.int l9), .val (.int ((p0 &&& (2147483647 : Int32)) % l8)), .val (.int ((p1 &&& (2147483647 : Int32)) % l8)), .val (.int ((p2 &&& (2147483647 : Int32)) % l9)), .val (.ref b714), .unset, .unset, .unset, .unset, .unset, .unset, .unset, .unset] [(.int (1 : Int32))])) := fun tq kq => G744 tq (st745.trans kq)
  have G755 : Go p e below A0 (T745.setTop (mkF m 133 #[.val (.int p0), .val (.int p1), .val (.int p2), .val (.int p3), .val (.int l4), .val (.int l5), .val (.int l6), .val (.int l7), .val (.int l8), .val (.int l9), .val (.int ((p0 &&& (2147483647 : Int32)) % l8)), .val (.int ((p1 &&& (2147483647 : Int32)) % l8)), .val (.int ((p2 &&& (2147483647 : Int32)) % l9)), .val (.ref b714), .unset, .unset, .unset, .unset, .unset, .unset, .unset, .unset] [(.ref b714)])) := fun tq kq => G754 tq (by
    refine XS.pop X745.here hx rfl (hb hby at_130) rfl rfl ?_
    show Steps p.tables e below (T745.setTop (mkF m 131 #[.val (.int p0), .val (.int p1), .val (.int p2), .val (.int p3), .val (.int l4), .val (.int l5), .val (.int l6), .val (.int l7), .val (.int l8), .val (.int l9), .val (.int ((p0 &&& (2147483647 : Int32)) % l8)), .val (.int ((p1 &&& (2147483647 : Int32)) % l8)), .val (.int ((p2 &&& (2147483647 : Int32)) % l9)), .val (.ref b714), .unset, .unset, .unset, .unset, .unset, .unset, .unset, .unset] [])) _
    refine XS.aload X745.here hx rfl (hb hby at_131) rfl rfl ?_
    show Steps p.tables e below (T745.setTop (mkF m 133 #[.val (.int p0), .val (.int p1), .val (.int p2), .val (.int p3), .val (.int l4), .val (.int l5), .val (.int l6), .val (.int l7), .val (.int l8), .val (.int l9), .val (.int ((p0 &&& (2147483647 : Int32)) % l8)), .val (.int ((p1 &&& (2147483647 : Int32)) % l8)), .val (.int ((p2 &&& (2147483647 : Int32)) % l9)), .val (.ref b714), .unset, .unset, .unset, .unset, .unset, .unset, .unset, .unset] [(.ref b714)])) _
    exact kq)
  have f757 := (Nat.le_trans f746 K745.1)
  obtain ⟨T756, h756, X756, e756, E756, A756, D756, -, st756⟩ := newO X745 hx hZ hown (hw _ (List.mem_of_getElem? (i := 27) rfl)) (hw _ (List.mem_of_getElem? (i := 28) rfl)) (hw _ (List.mem_of_getElem? (i := 29) rfl)) rfl (g := (mkF m 133 #[.val (.int p0), .val (.int p1), .val (.int p2), .val (.int p3), .val (.int l4), .val (.int l5), .val (.int l6), .val (.int l7), .val (.int l8), .val (.int l9), .val (.int ((p0 &&& (2147483647 : Int32)) % l8)), .val (.int ((p1 &&& (2147483647 : Int32)) % l8)), .val (.int ((p2 &&& (2147483647 : Int32)) % l9)), .val (.ref b714), .unset, .unset, .unset, .unset, .unset, .unset, .unset, .unset] [(.ref b714)])) rfl (hb hby at_133) (by decide) (by decide)
  obtain ⟨b756, g756⟩ : ∃ z, z = T745.heap.size := ⟨_, rfl⟩
  rw [← g756] at A756 D756 st756
  have f758 := (Nat.le_trans f753 K745.1)
  have sz_b756 : h0.size ≤ b756 := Nat.le_trans f758 (Nat.le_of_eq g756.symm)
  have g_b756 : n0 ≤ b756 := Nat.le_trans f757 (Nat.le_of_eq g756.symm)
  have lt_b714_b756 : b714 < b756 := Nat.lt_of_lt_of_le (f747.keep K745).lt (Nat.le_of_eq g756.symm)
  have lt_b722_b756 : b722 < b756 := Nat.lt_of_lt_of_le (f751.keep K745).lt (Nat.le_of_eq g756.symm)
  have lt_b731_b756 : b731 < b756 := Nat.lt_of_lt_of_le ((V731.keep K736 (ninS (Ne.symm (Nat.ne_of_lt lt_b722_b731)) nin0)).keep K745 (ninS (Ne.symm (Nat.ne_of_lt lt_b714_b731)) nin0)).lt (Nat.le_of_eq g756.symm)
  have lt_gb745_b756 : gb745 < b756 := Nat.lt_of_lt_of_le Ab745.lt (Nat.le_of_eq g756.symm)
  have F756_owner : Fld Z h756 b756 "com/example/ludarc/ludarc/engine/Variable" "owner" "Lcom/example/ludarc/ludarc/engine/Network$Builder;" .null := D756 (Or.inr (hw _ (List.mem_of_getElem? (i := 44) rfl))) (ty := (.object "com/example/ludarc/ludarc/engine/Network$Builder")) (by decide)
  have F756_index : Fld Z h756 b756 "com/example/ludarc/ludarc/engine/Variable" "index" "I" (.int (0 : Int32)) := D756 (Or.inr (hw _ (List.mem_of_getElem? (i := 46) rfl))) (ty := .int) (by decide)
  have F756_name : Fld Z h756 b756 "com/example/ludarc/ludarc/engine/Variable" "name" "Ljava/lang/String;" .null := D756 (Or.inr (hw _ (List.mem_of_getElem? (i := 48) rfl))) (ty := (.object "java/lang/String")) (by decide)
  have F756_values : Fld Z h756 b756 "com/example/ludarc/ludarc/engine/Variable" "values" "[I" .null := D756 (Or.inr (hw _ (List.mem_of_getElem? (i := 50) rfl))) (ty := (.array .int)) (by decide)
  have F756_probabilities : Fld Z h756 b756 "com/example/ludarc/ludarc/engine/Variable" "probabilities" "[D" .null := D756 (Or.inr (hw _ (List.mem_of_getElem? (i := 52) rfl))) (ty := (.array .double)) (by decide)
  have G759 : Go p e below A0 (T756.setTop (mkF m 136 #[.val (.int p0), .val (.int p1), .val (.int p2), .val (.int p3), .val (.int l4), .val (.int l5), .val (.int l6), .val (.int l7), .val (.int l8), .val (.int l9), .val (.int ((p0 &&& (2147483647 : Int32)) % l8)), .val (.int ((p1 &&& (2147483647 : Int32)) % l8)), .val (.int ((p2 &&& (2147483647 : Int32)) % l9)), .val (.ref b714), .unset, .unset, .unset, .unset, .unset, .unset, .unset, .unset] [(.ref b756), (.ref b714)])) := fun tq kq => G755 tq (st756 _ kq)
  have G760 : Go p e below A0 (T756.setTop (mkF m 139 #[.val (.int p0), .val (.int p1), .val (.int p2), .val (.int p3), .val (.int l4), .val (.int l5), .val (.int l6), .val (.int l7), .val (.int l8), .val (.int l9), .val (.int ((p0 &&& (2147483647 : Int32)) % l8)), .val (.int ((p1 &&& (2147483647 : Int32)) % l8)), .val (.int ((p2 &&& (2147483647 : Int32)) % l9)), .val (.ref b714), .unset, .unset, .unset, .unset, .unset, .unset, .unset, .unset] [(.int (1 : Int32)), .null, (.ref b756), (.ref b756), (.ref b714)])) := fun tq kq => G759 tq (by
    refine XS.dup X756.here hx rfl (hb hby at_136) rfl rfl ?_
    show Steps p.tables e below (T756.setTop (mkF m 137 #[.val (.int p0), .val (.int p1), .val (.int p2), .val (.int p3), .val (.int l4), .val (.int l5), .val (.int l6), .val (.int l7), .val (.int l8), .val (.int l9), .val (.int ((p0 &&& (2147483647 : Int32)) % l8)), .val (.int ((p1 &&& (2147483647 : Int32)) % l8)), .val (.int ((p2 &&& (2147483647 : Int32)) % l9)), .val (.ref b714), .unset, .unset, .unset, .unset, .unset, .unset, .unset, .unset] [(.ref b756), (.ref b756), (.ref b714)])) _
    refine XS.aconstNull X756.here hx rfl (hb hby at_137) ?_
    show Steps p.tables e below (T756.setTop (mkF m 138 #[.val (.int p0), .val (.int p1), .val (.int p2), .val (.int p3), .val (.int l4), .val (.int l5), .val (.int l6), .val (.int l7), .val (.int l8), .val (.int l9), .val (.int ((p0 &&& (2147483647 : Int32)) % l8)), .val (.int ((p1 &&& (2147483647 : Int32)) % l8)), .val (.int ((p2 &&& (2147483647 : Int32)) % l9)), .val (.ref b714), .unset, .unset, .unset, .unset, .unset, .unset, .unset, .unset] [.null, (.ref b756), (.ref b756), (.ref b714)])) _
    refine XS.iconst X756.here hx rfl (hb hby at_138) ?_
    show Steps p.tables e below (T756.setTop (mkF m 139 #[.val (.int p0), .val (.int p1), .val (.int p2), .val (.int p3), .val (.int l4), .val (.int l5), .val (.int l6), .val (.int l7), .val (.int l8), .val (.int l9), .val (.int ((p0 &&& (2147483647 : Int32)) % l8)), .val (.int ((p1 &&& (2147483647 : Int32)) % l8)), .val (.int ((p2 &&& (2147483647 : Int32)) % l9)), .val (.ref b714), .unset, .unset, .unset, .unset, .unset, .unset, .unset, .unset] [(.int (1 : Int32)), .null, (.ref b756), (.ref b756), (.ref b714)])) _
    exact kq)
  have f762 := (Nat.le_trans (Nat.le_trans (Nat.le_trans (Nat.le_trans hk727 E731.1) K736.1) K745.1) E756.1)
  obtain ⟨a761, T761, h761, k761, X761, e761, E761, hS, hk761, hZ, hown, st761⟩ := ldcS (s := s) (vm0 := T727.vm) X756 hx hZ hown (hw _ (List.mem_of_getElem? (i := 84) rfl)) hstr e756 hS f762 (g := (mkF m 139 #[.val (.int p0), .val (.int p1), .val (.int p2), .val (.int p3), .val (.int l4), .val (.int l5), .val (.int l6), .val (.int l7), .val (.int l8), .val (.int l9), .val (.int ((p0 &&& (2147483647 : Int32)) % l8)), .val (.int ((p1 &&& (2147483647 : Int32)) % l8)), .val (.int ((p2 &&& (2147483647 : Int32)) % l9)), .val (.ref b714), .unset, .unset, .unset, .unset, .unset, .unset, .unset, .unset] [(.int (1 : Int32)), .null, (.ref b756), (.ref b756), (.ref b714)])) rfl (hb hby at_139) (n := 4) (by decide) (by decide) (by decide) (by decide)
  have G763 : Go p e below A0 (T761.setTop (mkF m 141 #[.val (.int p0), .val (.int p1), .val (.int p2), .val (.int p3), .val (.int l4), .val (.int l5), .val (.int l6), .val (.int l7), .val (.int l8), .val (.int l9), .val (.int ((p0 &&& (2147483647 : Int32)) % l8)), .val (.int ((p1 &&& (2147483647 : Int32)) % l8)), .val (.int ((p2 &&& (2147483647 : Int32)) % l9)), .val (.ref b714), .unset, .unset, .unset, .unset, .unset, .unset, .unset, .unset] [(.ref a761), (.int (1 : Int32)), .null, (.ref b756), (.ref b756), (.ref b714)])) := fun tq kq => G760 tq (st761 _ kq)
  have G764 : Go p e below A0 (T761.setTop (mkF m 142 #[.val (.int p0), .val (.int p1), .val (.int p2), .val (.int p3), .val (.int l4), .val (.int l5), .val (.int l6), .val (.int l7), .val (.int l8), .val (.int l9), .val (.int ((p0 &&& (2147483647 : Int32)) % l8)), .val (.int ((p1 &&& (2147483647 : Int32)) % l8)), .val (.int ((p2 &&& (2147483647 : Int32)) % l9)), .val (.ref b714), .unset, .unset, .unset, .unset, .unset, .unset, .unset, .unset] [(.int (2 : Int32)), (.ref a761), (.int (1 : Int32)), .null, (.ref b756), (.ref b756), (.ref b714)])) := fun tq kq => G763 tq (by
    refine XS.iconst X761.here hx rfl (hb hby at_141) ?_
    show Steps p.tables e below (T761.setTop (mkF m 142 #[.val (.int p0), .val (.int p1), .val (.int p2), .val (.int p3), .val (.int l4), .val (.int l5), .val (.int l6), .val (.int l7), .val (.int l8), .val (.int l9), .val (.int ((p0 &&& (2147483647 : Int32)) % l8)), .val (.int ((p1 &&& (2147483647 : Int32)) % l8)), .val (.int ((p2 &&& (2147483647 : Int32)) % l9)), .val (.ref b714), .unset, .unset, .unset, .unset, .unset, .unset, .unset, .unset] [(.int (2 : Int32)), (.ref a761), (.int (1 : Int32)), .null, (.ref b756), (.ref b756), (.ref b714)])) _
    exact kq)
  have f766 := (Nat.le_trans (Nat.le_trans f757 E756.1) E761.1)
  obtain ⟨T765, h765, k765, X765, e765, E765, A765, st765⟩ := newP X761 hx hZ (hw _ (List.mem_of_getElem? (i := 38) rfl)) e761 (g := (mkF m 142 #[.val (.int p0), .val (.int p1), .val (.int p2), .val (.int p3), .val (.int l4), .val (.int l5), .val (.int l6), .val (.int l7), .val (.int l8), .val (.int l9), .val (.int ((p0 &&& (2147483647 : Int32)) % l8)), .val (.int ((p1 &&& (2147483647 : Int32)) % l8)), .val (.int ((p2 &&& (2147483647 : Int32)) % l9)), .val (.ref b714), .unset, .unset, .unset, .unset, .unset, .unset, .unset, .unset] [(.int (2 : Int32)), (.ref a761), (.int (1 : Int32)), .null, (.ref b756), (.ref b756), (.ref b714)])) rfl (hb hby at_142) rfl (by decide) (cap := 2) (by decide) (by decide) (by decide) (by decide)
  obtain ⟨b765, g765⟩ : ∃ z, z = h761.size := ⟨_, rfl⟩
  rw [← g765] at A765 st765
  have f767 := (Nat.le_trans (Nat.le_trans f758 E756.1) E761.1)
  have sz_b765 : h0.size ≤ b765 := Nat.le_trans f767 (Nat.le_of_eq g765.symm)
  have g_b765 : n0 ≤ b765 := Nat.le_trans f766 (Nat.le_of_eq g765.symm)
  have lt_b714_b765 : b714 < b765 := Nat.lt_of_lt_of_le (((f747.keep K745).ext E756).ext E761).lt (Nat.le_of_eq g765.symm)
  have lt_b722_b765 : b722 < b765 := Nat.lt_of_lt_of_le (((f751.keep K745).ext E756).ext E761).lt (Nat.le_of_eq g765.symm)
  have lt_b731_b765 : b731 < b765 := Nat.lt_of_lt_of_le ((((V731.keep K736 (ninS (Ne.symm (Nat.ne_of_lt lt_b722_b731)) nin0)).keep K745 (ninS (Ne.symm (Nat.ne_of_lt lt_b714_b731)) nin0)).ext E756).ext E761).lt (Nat.le_of_eq g765.symm)
  have lt_gb745_b765 : gb745 < b765 := Nat.lt_of_lt_of_le ((Ab745.ext E756).ext E761).lt (Nat.le_of_eq g765.symm)
  have lt_b756_b765 : b756 < b765 := Nat.lt_of_lt_of_le (A756.ext E761).lt (Nat.le_of_eq g765.symm)
  have V765 : Arv Z h765 b765 k765 .int (2 : Int32) [(.int (0 : Int32)), (.int (0 : Int32))] (.int (0 : Int32)) := (Arv.new A765 (by decide)).pad (pad_rep [] (.int (0 : Int32)) 2)
  have G768 : Go p e below A0 (T765.setTop (mkF m 144 #[.val (.int p0), .val (.int p1), .val (.int p2), .val (.int p3), .val (.int l4), .val (.int l5), .val (.int l6), .val (.int l7), .val (.int l8), .val (.int l9), .val (.int ((p0 &&& (2147483647 : Int32)) % l8)), .val (.int ((p1 &&& (2147483647 : Int32)) % l8)), .val (.int ((p2 &&& (2147483647 : Int32)) % l9)), .val (.ref b714), .unset, .unset, .unset, .unset, .unset, .unset, .unset, .unset] [(.ref b765), (.ref a761), (.int (1 : Int32)), .null, (.ref b756), (.ref b756), (.ref b714)])) := fun tq kq => G764 tq (st765 _ kq)
  have G769 : Go p e below A0 (T765.setTop (mkF m 145 #[.val (.int p0), .val (.int p1), .val (.int p2), .val (.int p3), .val (.int l4), .val (.int l5), .val (.int l6), .val (.int l7), .val (.int l8), .val (.int l9), .val (.int ((p0 &&& (2147483647 : Int32)) % l8)), .val (.int ((p1 &&& (2147483647 : Int32)) % l8)), .val (.int ((p2 &&& (2147483647 : Int32)) % l9)), .val (.ref b714), .unset, .unset, .unset, .unset, .unset, .unset, .unset, .unset] [.null, (.ref b765), (.ref a761), (.int (1 : Int32)), .null, (.ref b756), (.ref b756), (.ref b714)])) := fun tq kq => G768 tq (by
    refine XS.aconstNull X765.here hx rfl (hb hby at_144) ?_
    show Steps p.tables e below (T765.setTop (mkF m 145 #[.val (.int p0), .val (.int p1), .val (.int p2), .val (.int p3), .val (.int l4), .val (.int l5), .val (.int l6), .val (.int l7), .val (.int l8), .val (.int l9), .val (.int ((p0 &&& (2147483647 : Int32)) % l8)), .val (.int ((p1 &&& (2147483647 : Int32)) % l8)), .val (.int ((p2 &&& (2147483647 : Int32)) % l9)), .val (.ref b714), .unset, .unset, .unset, .unset, .unset, .unset, .unset, .unset] [.null, (.ref b765), (.ref a761), (.int (1 : Int32)), .null, (.ref b756), (.ref b756), (.ref b714)])) _
    exact kq)
  have f771 := (Nat.le_trans f766 E765.1)
  have f772 := ((A756.ext E761).ext E765)
  have f773 := ((F756_owner.ext E761).ext E765)
  have f774 := ((F756_index.ext E761).ext E765)
  have f775 := ((F756_name.ext E761).ext E765)
  have f776 := ((F756_values.ext E761).ext E765)
  have f777 := ((F756_probabilities.ext E761).ext E765)
  obtain ⟨_, _, ⟨T770, L770, k770, n770⟩, -, X770, ⟨Lc770, hQ770, l770, y770, z770⟩, st770⟩ := X765.specialBack hx (y := (⟨"com/example/ludarc/ludarc/engine/Variable", "<init>", "(Lcom/example/ludarc/ludarc/engine/Network$Builder;ILjava/lang/String;[I[D)V"⟩ : MethodName)) rfl hown (mvT hZ (hw _ (List.mem_of_getElem? (i := 39) rfl))) (mvT hZ (hw _ (List.mem_of_getElem? (i := 40) rfl))) (mvT hZ (hw _ (List.mem_of_getElem? (i := 41) rfl))) (by decide) (backOf (W := 2) (rm5 l Z a0 hw [] b756 b765 a761 (1 : Int32) h765 n0 f771 f772 g_b756 f773 f774 f775 f776 f777) hZ (hw _ (List.mem_of_getElem? (i := 41) rfl)) (hw _ (List.mem_of_getElem? (i := 29) rfl)) (by decide) (by decide)) (g := (mkF m 145 #[.val (.int p0), .val (.int p1), .val (.int p2), .val (.int p3), .val (.int l4), .val (.int l5), .val (.int l6), .val (.int l7), .val (.int l8), .val (.int l9), .val (.int ((p0 &&& (2147483647 : Int32)) % l8)), .val (.int ((p1 &&& (2147483647 : Int32)) % l8)), .val (.int ((p2 &&& (2147483647 : Int32)) % l9)), .val (.ref b714), .unset, .unset, .unset, .unset, .unset, .unset, .unset, .unset] [.null, (.ref b765), (.ref a761), (.int (1 : Int32)), .null, (.ref b756), (.ref b756), (.ref b714)])) rfl (by rw [hml]; rfl) (Steps.refl _) (a := b756) (argsL := [.null, (.int (1 : Int32)), (.ref a761), (.ref b765), .null]) (rest := [(.ref b756), (.ref b714)]) (lenOf pd_8 rfl) rfl (by show 2 * 0 + _ ≤ _; exact Nat.le_of_eq rfl) (hb hby at_145) (fun _ _ => ⟨rfl, e765, (by decide : 10 + 0 ≤ _), (by decide : 44 + 0 ≤ _)⟩)
  dsimp only [Pt.U, Pt.locs, Pt.cells, Pt.slots] at X770 l770 y770 z770 st770 hQ770
  obtain rfl : k770 = 10 := y770
  obtain rfl : n770 = 44 := z770
  obtain ⟨rfl, N770q, K770, Fv770⟩ := hQ770
  have N770 : Fr n0 L770 := by rw [l770]; exact Fr.app N745 N770q
  have G778 : Go p e below A0 (T770.setTop (mkF m 148 #[.val (.int p0), .val (.int p1), .val (.int p2), .val (.int p3), .val (.int l4), .val (.int l5), .val (.int l6), .val (.int l7), .val (.int l8), .val (.int l9), .val (.int ((p0 &&& (2147483647 : Int32)) % l8)), .val (.int ((p1 &&& (2147483647 : Int32)) % l8)), .val (.int ((p2 &&& (2147483647 : Int32)) % l9)), .val (.ref b714), .unset, .unset, .unset, .unset, .unset, .unset, .unset, .unset] [(.ref b756), (.ref b714)])) := fun tq kq => G769 tq (st770.trans kq)
  have f780 := (Nat.le_trans f771 K770.1)
  have f781 := (((((f747.keep K745).ext E756).ext E761).ext E765).keep K770)
  have f782 := ((((Fx745_0x.ext E756).ext E761).ext E765).keep K770 (ninS (Nat.ne_of_lt lt_b714_b756) nin0))
  have f783 := ((((Fx745_1.ext E756).ext E761).ext E765).keep K770 (ninS (Nat.ne_of_lt lt_b714_b756) nin0))
  have f784 := ((((Fx745_2.ext E756).ext E761).ext E765).keep K770 (ninS (Nat.ne_of_lt lt_b714_b756) nin0))
  have f785 := (f772.keep K770)
  have f786 := ((((Ab745.ext E756).ext E761).ext E765).keep K770 (ninS (Nat.ne_of_lt lt_gb745_b756) nin0))
  obtain ⟨cq779, kq779, q779a, q779b, q779c⟩ := isOf hZ rfl f781
  obtain ⟨_, _, ⟨T779, L779, k779, n779⟩, -, X779, ⟨Lc779, hQ779, l779, y779, z779⟩, st779⟩ := X770.virtualBack hx (y := (⟨"java/util/ArrayList", "add", "(Ljava/lang/Object;)Z"⟩ : MethodName)) (z := (⟨"java/util/ArrayList", "add", "(Ljava/lang/Object;)Z"⟩ : MethodName)) hown (mvT hZ (hw _ (List.mem_of_getElem? (i := 53) rfl))) (mvT hZ (hw _ (List.mem_of_getElem? (i := 54) rfl))) (notFace_of_selects (args := #[]) (mvT hZ (hw _ (List.mem_of_getElem? (i := 56) rfl)))) (mvT hZ (hw _ (List.mem_of_getElem? (i := 56) rfl))) (mvT hZ (hw _ (List.mem_of_getElem? (i := 55) rfl))) (by decide) (backOf (W := 0) (rmA1b l Z a0 hw [] b714 gb745 b722 b756 (1 : Int32) kb745 T770.heap n0 f780 f781 g_b714 f782 f783 f784 f786 Ov745 hg745 (Nat.ne_of_lt lt_b714_gb745) f785) hZ (hw _ (List.mem_of_getElem? (i := 57) rfl)) (hw _ (List.mem_of_getElem? (i := 3) rfl)) (by decide) (by decide)) q779a q779c (g := (mkF m 148 #[.val (.int p0), .val (.int p1), .val (.int p2), .val (.int p3), .val (.int l4), .val (.int l5), .val (.int l6), .val (.int l7), .val (.int l8), .val (.int l9), .val (.int ((p0 &&& (2147483647 : Int32)) % l8)), .val (.int ((p1 &&& (2147483647 : Int32)) % l8)), .val (.int ((p2 &&& (2147483647 : Int32)) % l9)), .val (.ref b714), .unset, .unset, .unset, .unset, .unset, .unset, .unset, .unset] [(.ref b756), (.ref b714)])) rfl (by rw [hml]; rfl) (Steps.refl _) (argsL := [(.ref b756)]) (rest := []) (lenOf pd_9 rfl) rfl (by show 2 * 0 + _ ≤ _; exact Nat.le_of_eq rfl) (hb hby at_148) (fun _ _ => ⟨rfl, rfl, (by decide : 10 + 0 ≤ _), (by decide : 44 + 0 ≤ _)⟩)
  dsimp only [Pt.U, Pt.locs, Pt.cells, Pt.slots] at X779 l779 y779 z779 st779 hQ779
  obtain rfl : k779 = 10 := y779
  obtain rfl : n779 = 44 := z779
  obtain ⟨rfl, N779q, K779, Fx779_0, Fx779_1, Fx779_2, Ab779⟩ := hQ779
  have N779 : Fr n0 L779 := by rw [l779]; exact Fr.app N770 N779q
  have Fx779_0x : Fld Z T779.heap b714 "java/util/AbstractList" "modCount" "I" (.int (2 : Int32)) := Fx779_0
  have G787 : Go p e below A0 (T779.setTop (mkF m 151 #[.val (.int p0), .val (.int p1), .val (.int p2), .val (.int p3), .val (.int l4), .val (.int l5), .val (.int l6), .val (.int l7), .val (.int l8), .val (.int l9), .val (.int ((p0 &&& (2147483647 : Int32)) % l8)), .val (.int ((p1 &&& (2147483647 : Int32)) % l8)), .val (.int ((p2 &&& (2147483647 : Int32)) % l9)), .val (.ref b714), .unset, .unset, .unset, .unset, .unset, .unset, .unset, .unset] [(.int (1 : Int32))])) := fun tq kq => G778 tq (st779.trans kq)
  have G788 : Go p e below A0 (T779.setTop (mkF m 152 #[.val (.int p0), .val (.int p1), .val (.int p2), .val (.int p3), .val (.int l4), .val (.int l5), .val (.int l6), .val (.int l7), .val (.int l8), .val (.int l9), .val (.int ((p0 &&& (2147483647 : Int32)) % l8)), .val (.int ((p1 &&& (2147483647 : Int32)) % l8)), .val (.int ((p2 &&& (2147483647 : Int32)) % l9)), .val (.ref b714), .unset, .unset, .unset, .unset, .unset, .unset, .unset, .unset] [])) := fun tq kq => G787 tq (by
    refine XS.pop X779.here hx rfl (hb hby at_151) rfl rfl ?_
    show Steps p.tables e below (T779.setTop (mkF m 152 #[.val (.int p0), .val (.int p1), .val (.int p2), .val (.int p3), .val (.int l4), .val (.int l5), .val (.int l6), .val (.int l7), .val (.int l8), .val (.int l9), .val (.int ((p0 &&& (2147483647 : Int32)) % l8)), .val (.int ((p1 &&& (2147483647 : Int32)) % l8)), .val (.int ((p2 &&& (2147483647 : Int32)) % l9)), .val (.ref b714), .unset, .unset, .unset, .unset, .unset, .unset, .unset, .unset] [])) _
    exact kq)
  have f790 := (Nat.le_trans f780 K779.1)
  obtain ⟨T789, h789, X789, e789, E789, A789, D789, -, st789⟩ := newO X779 hx hZ hown (hw _ (List.mem_of_getElem? (i := 85) rfl)) (hw _ (List.mem_of_getElem? (i := 86) rfl)) (hw _ (List.mem_of_getElem? (i := 87) rfl)) rfl (g := (mkF m 152 #[.val (.int p0), .val (.int p1), .val (.int p2), .val (.int p3), .val (.int l4), .val (.int l5), .val (.int l6), .val (.int l7), .val (.int l8), .val (.int l9), .val (.int ((p0 &&& (2147483647 : Int32)) % l8)), .val (.int ((p1 &&& (2147483647 : Int32)) % l8)), .val (.int ((p2 &&& (2147483647 : Int32)) % l9)), .val (.ref b714), .unset, .unset, .unset, .unset, .unset, .unset, .unset, .unset] [])) rfl (hb hby at_152) (by decide) (by decide)
  obtain ⟨b789, g789⟩ : ∃ z, z = T779.heap.size := ⟨_, rfl⟩
  rw [← g789] at A789 D789 st789
  have f791 := (Nat.le_trans (Nat.le_trans (Nat.le_trans f767 E765.1) K770.1) K779.1)
  have sz_b789 : h0.size ≤ b789 := Nat.le_trans f791 (Nat.le_of_eq g789.symm)
  have g_b789 : n0 ≤ b789 := Nat.le_trans f790 (Nat.le_of_eq g789.symm)
  have lt_b714_b789 : b714 < b789 := Nat.lt_of_lt_of_le (f781.keep K779).lt (Nat.le_of_eq g789.symm)
  have lt_b722_b789 : b722 < b789 := Nat.lt_of_lt_of_le ((((((f751.keep K745).ext E756).ext E761).ext E765).keep K770).keep K779).lt (Nat.le_of_eq g789.symm)
  have lt_b731_b789 : b731 < b789 := Nat.lt_of_lt_of_le (((((((V731.keep K736 (ninS (Ne.symm (Nat.ne_of_lt lt_b722_b731)) nin0)).keep K745 (ninS (Ne.symm (Nat.ne_of_lt lt_b714_b731)) nin0)).ext E756).ext E761).ext E765).keep K770 (ninS (Nat.ne_of_lt lt_b731_b756) nin0)).keep K779 (ninS (Ne.symm (Nat.ne_of_lt lt_b714_b731)) (ninS (Nat.ne_of_lt lt_b731_gb745) nin0))).lt (Nat.le_of_eq g789.symm)
  have lt_gb745_b789 : gb745 < b789 := Nat.lt_of_lt_of_le Ab779.lt (Nat.le_of_eq g789.symm)
  have lt_b756_b789 : b756 < b789 := Nat.lt_of_lt_of_le (f785.keep K779).lt (Nat.le_of_eq g789.symm)
  have lt_b765_b789 : b765 < b789 := Nat.lt_of_lt_of_le ((V765.keep K770 (ninS (Ne.symm (Nat.ne_of_lt lt_b756_b765)) nin0)).keep K779 (ninS (Ne.symm (Nat.ne_of_lt lt_b714_b765)) (ninS (Ne.symm (Nat.ne_of_lt lt_gb745_b765)) nin0))).lt (Nat.le_of_eq g789.symm)
  have F789_round : Fld Z h789 b789 "com/example/ludarc/ludarc/engine/Domains" "round" "I" (.int (0 : Int32)) := D789 (Or.inl (hw _ (List.mem_of_getElem? (i := 93) rfl))) (ty := .int) (by decide)
  have F789_members : Fld Z h789 b789 "com/example/ludarc/ludarc/engine/Domains" "members" "[[I" .null := D789 (Or.inr (hw _ (List.mem_of_getElem? (i := 106) rfl))) (ty := (.array (.array .int))) (by decide)
  have F789_positions : Fld Z h789 b789 "com/example/ludarc/ludarc/engine/Domains" "positions" "[[I" .null := D789 (Or.inr (hw _ (List.mem_of_getElem? (i := 108) rfl))) (ty := (.array (.array .int))) (by decide)
  have F789_sizes : Fld Z h789 b789 "com/example/ludarc/ludarc/engine/Domains" "sizes" "[I" .null := D789 (Or.inr (hw _ (List.mem_of_getElem? (i := 110) rfl))) (ty := (.array .int)) (by decide)
  have F789_marks : Fld Z h789 b789 "com/example/ludarc/ludarc/engine/Domains" "marks" "[[I" .null := D789 (Or.inr (hw _ (List.mem_of_getElem? (i := 112) rfl))) (ty := (.array (.array .int))) (by decide)
  have G792 : Go p e below A0 (T789.setTop (mkF m 155 #[.val (.int p0), .val (.int p1), .val (.int p2), .val (.int p3), .val (.int l4), .val (.int l5), .val (.int l6), .val (.int l7), .val (.int l8), .val (.int l9), .val (.int ((p0 &&& (2147483647 : Int32)) % l8)), .val (.int ((p1 &&& (2147483647 : Int32)) % l8)), .val (.int ((p2 &&& (2147483647 : Int32)) % l9)), .val (.ref b714), .unset, .unset, .unset, .unset, .unset, .unset, .unset, .unset] [(.ref b789)])) := fun tq kq => G788 tq (st789 _ kq)
  have G793 : Go p e below A0 (T789.setTop (mkF m 158 #[.val (.int p0), .val (.int p1), .val (.int p2), .val (.int p3), .val (.int l4), .val (.int l5), .val (.int l6), .val (.int l7), .val (.int l8), .val (.int l9), .val (.int ((p0 &&& (2147483647 : Int32)) % l8)), .val (.int ((p1 &&& (2147483647 : Int32)) % l8)), .val (.int ((p2 &&& (2147483647 : Int32)) % l9)), .val (.ref b714), .unset, .unset, .unset, .unset, .unset, .unset, .unset, .unset] [(.ref b714), (.ref b789), (.ref b789)])) := fun tq kq => G792 tq (by
    refine XS.dup X789.here hx rfl (hb hby at_155) rfl rfl ?_
    show Steps p.tables e below (T789.setTop (mkF m 156 #[.val (.int p0), .val (.int p1), .val (.int p2), .val (.int p3), .val (.int l4), .val (.int l5), .val (.int l6), .val (.int l7), .val (.int l8), .val (.int l9), .val (.int ((p0 &&& (2147483647 : Int32)) % l8)), .val (.int ((p1 &&& (2147483647 : Int32)) % l8)), .val (.int ((p2 &&& (2147483647 : Int32)) % l9)), .val (.ref b714), .unset, .unset, .unset, .unset, .unset, .unset, .unset, .unset] [(.ref b789), (.ref b789)])) _
    refine XS.aload X789.here hx rfl (hb hby at_156) rfl rfl ?_
    show Steps p.tables e below (T789.setTop (mkF m 158 #[.val (.int p0), .val (.int p1), .val (.int p2), .val (.int p3), .val (.int l4), .val (.int l5), .val (.int l6), .val (.int l7), .val (.int l8), .val (.int l9), .val (.int ((p0 &&& (2147483647 : Int32)) % l8)), .val (.int ((p1 &&& (2147483647 : Int32)) % l8)), .val (.int ((p2 &&& (2147483647 : Int32)) % l9)), .val (.ref b714), .unset, .unset, .unset, .unset, .unset, .unset, .unset, .unset] [(.ref b714), (.ref b789), (.ref b789)])) _
    exact kq)
  have f795 := (Nat.le_trans f790 E789.1)
  have f796 := ((f781.keep K779).ext E789)
  have f797 := (Fx779_1.ext E789)
  have f798 := (Fx779_2.ext E789)
  have f799 := (Ab779.ext E789)
  have f800 := (((((((f751.keep K745).ext E756).ext E761).ext E765).keep K770).keep K779).ext E789)
  have f801 := (((((((Fv736.keep K745 (ninS (Ne.symm (Nat.ne_of_lt lt_b714_b722)) nin0)).ext E756).ext E761).ext E765).keep K770 (ninS (Nat.ne_of_lt lt_b722_b756) nin0)).keep K779 (ninS (Ne.symm (Nat.ne_of_lt lt_b714_b722)) (ninS (Nat.ne_of_lt lt_b722_gb745) nin0))).ext E789)
  have f802 := ((((((((V731.keep K736 (ninS (Ne.symm (Nat.ne_of_lt lt_b722_b731)) nin0)).keep K745 (ninS (Ne.symm (Nat.ne_of_lt lt_b714_b731)) nin0)).ext E756).ext E761).ext E765).keep K770 (ninS (Nat.ne_of_lt lt_b731_b756) nin0)).keep K779 (ninS (Ne.symm (Nat.ne_of_lt lt_b714_b731)) (ninS (Nat.ne_of_lt lt_b731_gb745) nin0))).ext E789)
  have f803 := ((f785.keep K779).ext E789)
  have f804 := ((Fv770.keep K779 (ninS (Ne.symm (Nat.ne_of_lt lt_b714_b756)) (ninS (Ne.symm (Nat.ne_of_lt lt_gb745_b756)) nin0))).ext E789)
  have f805 := (((V765.keep K770 (ninS (Ne.symm (Nat.ne_of_lt lt_b756_b765)) nin0)).keep K779 (ninS (Ne.symm (Nat.ne_of_lt lt_b714_b765)) (ninS (Ne.symm (Nat.ne_of_lt lt_gb745_b765)) nin0))).ext E789)
  have f806 := (Nat.le_trans f791 E789.1)
  obtain ⟨_, _, ⟨T794, L794, k794, n794⟩, -, X794, ⟨Lc794, hQ794, l794, y794, z794⟩, st794⟩ := X789.specialBack hx (y := (⟨"com/example/ludarc/ludarc/engine/Domains", "<init>", "(Ljava/util/List;)V"⟩ : MethodName)) rfl hown (mvT hZ (hw _ (List.mem_of_getElem? (i := 88) rfl))) (mvT hZ (hw _ (List.mem_of_getElem? (i := 89) rfl))) (mvT hZ (hw _ (List.mem_of_getElem? (i := 90) rfl))) (by decide) (backOf (W := 1) (rm11 l Z a0 hw [] b789 b714 gb745 b722 b756 b731 b765 kb745 k731 k765 [(.int (0 : Int32)), (.int (0 : Int32)), (.int (0 : Int32))] [(.int (0 : Int32)), (.int (0 : Int32))] h789 n0 f795 A789 g_b789 F789_round F789_members F789_positions F789_sizes F789_marks f796 f797 f798 f799 f800 f801 f802 f803 f804 f805 (Ne.symm (Nat.ne_of_lt lt_b714_b789)) (Ne.symm (Nat.ne_of_lt lt_gb745_b789)) (Ne.symm (Nat.ne_of_lt lt_b722_b789)) (Ne.symm (Nat.ne_of_lt lt_b756_b789)) (Ne.symm (Nat.ne_of_lt lt_b731_b789)) (Ne.symm (Nat.ne_of_lt lt_b765_b789))) hZ (hw _ (List.mem_of_getElem? (i := 90) rfl)) (hw _ (List.mem_of_getElem? (i := 87) rfl)) (by decide) (by decide)) (g := (mkF m 158 #[.val (.int p0), .val (.int p1), .val (.int p2), .val (.int p3), .val (.int l4), .val (.int l5), .val (.int l6), .val (.int l7), .val (.int l8), .val (.int l9), .val (.int ((p0 &&& (2147483647 : Int32)) % l8)), .val (.int ((p1 &&& (2147483647 : Int32)) % l8)), .val (.int ((p2 &&& (2147483647 : Int32)) % l9)), .val (.ref b714), .unset, .unset, .unset, .unset, .unset, .unset, .unset, .unset] [(.ref b714), (.ref b789), (.ref b789)])) rfl (by rw [hml]; rfl) (Steps.refl _) (a := b789) (argsL := [(.ref b714)]) (rest := [(.ref b789)]) (lenOf pd_10 rfl) rfl (by show 2 * 0 + _ ≤ _; exact Nat.le_of_eq rfl) (hb hby at_158) (fun _ _ => ⟨rfl, e789, (by decide : 11 + 10 ≤ _), (by decide : 49 + 23 ≤ _)⟩)
  dsimp only [Pt.U, Pt.locs, Pt.cells, Pt.slots] at X794 l794 y794 z794 st794 hQ794
  obtain rfl : k794 = 21 := y794
  obtain rfl : n794 = 72 := z794
  obtain ⟨mem_, pos_, siz_, mrk_, m0_, p0_, k0_, m1_, p1_, k1_, rfl, N794q, K794, hsm794, ord794, dom794⟩ := hQ794
  have N794 : Fr n0 L794 := by rw [l794]; exact Fr.app N779 N794q
  have G807 : Go p e below A0 (T794.setTop (mkF m 161 #[.val (.int p0), .val (.int p1), .val (.int p2), .val (.int p3), .val (.int l4), .val (.int l5), .val (.int l6), .val (.int l7), .val (.int l8), .val (.int l9), .val (.int ((p0 &&& (2147483647 : Int32)) % l8)), .val (.int ((p1 &&& (2147483647 : Int32)) % l8)), .val (.int ((p2 &&& (2147483647 : Int32)) % l9)), .val (.ref b714), .unset, .unset, .unset, .unset, .unset, .unset, .unset, .unset] [(.ref b789)])) := fun tq kq => G793 tq (st794.trans kq)
  have G808 : Go p e below A0 (T794.setTop (mkF m 163 #[.val (.int p0), .val (.int p1), .val (.int p2), .val (.int p3), .val (.int l4), .val (.int l5), .val (.int l6), .val (.int l7), .val (.int l8), .val (.int l9), .val (.int ((p0 &&& (2147483647 : Int32)) % l8)), .val (.int ((p1 &&& (2147483647 : Int32)) % l8)), .val (.int ((p2 &&& (2147483647 : Int32)) % l9)), .val (.ref b714), .val (.ref b789), .unset, .unset, .unset, .unset, .unset, .unset, .unset] [])) := fun tq kq => G807 tq (by
    refine XS.astore X794.here hx rfl (hb hby at_161) rfl rfl (l' := #[.val (.int p0), .val (.int p1), .val (.int p2), .val (.int p3), .val (.int l4), .val (.int l5), .val (.int l6), .val (.int l7), .val (.int l8), .val (.int l9), .val (.int ((p0 &&& (2147483647 : Int32)) % l8)), .val (.int ((p1 &&& (2147483647 : Int32)) % l8)), .val (.int ((p2 &&& (2147483647 : Int32)) % l9)), .val (.ref b714), .val (.ref b789), .unset, .unset, .unset, .unset, .unset, .unset, .unset]) rfl ?_
    show Steps p.tables e below (T794.setTop (mkF m 163 #[.val (.int p0), .val (.int p1), .val (.int p2), .val (.int p3), .val (.int l4), .val (.int l5), .val (.int l6), .val (.int l7), .val (.int l8), .val (.int l9), .val (.int ((p0 &&& (2147483647 : Int32)) % l8)), .val (.int ((p1 &&& (2147483647 : Int32)) % l8)), .val (.int ((p2 &&& (2147483647 : Int32)) % l9)), .val (.ref b714), .val (.ref b789), .unset, .unset, .unset, .unset, .unset, .unset, .unset] [])) _
    exact kq)
  rcases hSV with ⟨rfl, rfl, rfl, rfl, rfl⟩ | ⟨rfl, rfl, rfl, rfl, rfl⟩
  · have ha := own_rem p0 (3 : Int32) (Or.inl rfl)
    have hb_ := own_rem p1 (3 : Int32) (Or.inl rfl)
    have hc_ := own_rem p2 (2 : Int32) (Or.inr rfl)
    have G809 : Go p e below A0 (T794.setTop (mkF m 169 #[.val (.int p0), .val (.int p1), .val (.int p2), .val (.int p3), .val (.int (0 : Int32)), .val (.int l5), .val (.int (0 : Int32)), .val (.int (1 : Int32)), .val (.int (3 : Int32)), .val (.int (2 : Int32)), .val (.int ((p0 &&& (2147483647 : Int32)) % (3 : Int32))), .val (.int ((p1 &&& (2147483647 : Int32)) % (3 : Int32))), .val (.int ((p2 &&& (2147483647 : Int32)) % (2 : Int32))), .val (.ref b714), .val (.ref b789), .unset, .unset, .unset, .unset, .unset, .unset, .unset] [(.int ((p0 &&& (2147483647 : Int32)) % (3 : Int32))), (.int (0 : Int32)), (.ref b789)])) := fun tq kq => G808 tq (by
      refine XS.aload X794.here hx rfl (hb hby at_163) rfl rfl ?_
      show Steps p.tables e below (T794.setTop (mkF m 165 #[.val (.int p0), .val (.int p1), .val (.int p2), .val (.int p3), .val (.int (0 : Int32)), .val (.int l5), .val (.int (0 : Int32)), .val (.int (1 : Int32)), .val (.int (3 : Int32)), .val (.int (2 : Int32)), .val (.int ((p0 &&& (2147483647 : Int32)) % (3 : Int32))), .val (.int ((p1 &&& (2147483647 : Int32)) % (3 : Int32))), .val (.int ((p2 &&& (2147483647 : Int32)) % (2 : Int32))), .val (.ref b714), .val (.ref b789), .unset, .unset, .unset, .unset, .unset, .unset, .unset] [(.ref b789)])) _
      refine XS.iload X794.here hx rfl (hb hby at_165) rfl ?_
      show Steps p.tables e below (T794.setTop (mkF m 167 #[.val (.int p0), .val (.int p1), .val (.int p2), .val (.int p3), .val (.int (0 : Int32)), .val (.int l5), .val (.int (0 : Int32)), .val (.int (1 : Int32)), .val (.int (3 : Int32)), .val (.int (2 : Int32)), .val (.int ((p0 &&& (2147483647 : Int32)) % (3 : Int32))), .val (.int ((p1 &&& (2147483647 : Int32)) % (3 : Int32))), .val (.int ((p2 &&& (2147483647 : Int32)) % (2 : Int32))), .val (.ref b714), .val (.ref b789), .unset, .unset, .unset, .unset, .unset, .unset, .unset] [(.int (0 : Int32)), (.ref b789)])) _
      refine XS.iload X794.here hx rfl (hb hby at_167) rfl ?_
      show Steps p.tables e below (T794.setTop (mkF m 169 #[.val (.int p0), .val (.int p1), .val (.int p2), .val (.int p3), .val (.int (0 : Int32)), .val (.int l5), .val (.int (0 : Int32)), .val (.int (1 : Int32)), .val (.int (3 : Int32)), .val (.int (2 : Int32)), .val (.int ((p0 &&& (2147483647 : Int32)) % (3 : Int32))), .val (.int ((p1 &&& (2147483647 : Int32)) % (3 : Int32))), .val (.int ((p2 &&& (2147483647 : Int32)) % (2 : Int32))), .val (.ref b714), .val (.ref b789), .unset, .unset, .unset, .unset, .unset, .unset, .unset] [(.int ((p0 &&& (2147483647 : Int32)) % (3 : Int32))), (.int (0 : Int32)), (.ref b789)])) _
      exact kq)
    have f811 := (Nat.le_trans f795 K794.1)
    have f812 := (A789.keep K794)
    obtain ⟨cq810, kq810, q810a, q810b, q810c⟩ := isOf hZ rfl f812
    obtain ⟨_, _, ⟨T810, L810, k810, n810⟩, -, X810, ⟨Lc810, hQ810, l810, y810, z810⟩, st810⟩ := X794.virtualBack hx (y := (⟨"com/example/ludarc/ludarc/engine/Domains", "mark", "(II)Z"⟩ : MethodName)) (z := (⟨"com/example/ludarc/ludarc/engine/Domains", "mark", "(II)Z"⟩ : MethodName)) hown (mvT hZ (hw _ (List.mem_of_getElem? (i := 142) rfl))) (mvT hZ (hw _ (List.mem_of_getElem? (i := 143) rfl))) (notFace_of_selects (args := #[]) (mvT hZ (hw _ (List.mem_of_getElem? (i := 145) rfl)))) (mvT hZ (hw _ (List.mem_of_getElem? (i := 145) rfl))) (mvT hZ (hw _ (List.mem_of_getElem? (i := 144) rfl))) (by decide) (backOf (W := 0) (rmM0 l Z a0 hw [] b789 mem_ pos_ siz_ mrk_ m0_ p0_ k0_ m1_ p1_ k1_ (1 : Int32) (own_sz) (own_id) (own_id) (own_zero) (own_id) (own_id) (own_zero) (1 : Int32) ((p0 &&& (2147483647 : Int32)) % (3 : Int32)) T794.heap n0 f811 ord794 dom794 ha (own_bt (own_upz _))) hZ (hw _ (List.mem_of_getElem? (i := 146) rfl)) (hw _ (List.mem_of_getElem? (i := 87) rfl)) (by decide) (by decide)) q810a q810c (g := (mkF m 169 #[.val (.int p0), .val (.int p1), .val (.int p2), .val (.int p3), .val (.int (0 : Int32)), .val (.int l5), .val (.int (0 : Int32)), .val (.int (1 : Int32)), .val (.int (3 : Int32)), .val (.int (2 : Int32)), .val (.int ((p0 &&& (2147483647 : Int32)) % (3 : Int32))), .val (.int ((p1 &&& (2147483647 : Int32)) % (3 : Int32))), .val (.int ((p2 &&& (2147483647 : Int32)) % (2 : Int32))), .val (.ref b714), .val (.ref b789), .unset, .unset, .unset, .unset, .unset, .unset, .unset] [(.int ((p0 &&& (2147483647 : Int32)) % (3 : Int32))), (.int (0 : Int32)), (.ref b789)])) rfl (by rw [hml]; rfl) (Steps.refl _) (argsL := [(.int (0 : Int32)), (.int ((p0 &&& (2147483647 : Int32)) % (3 : Int32)))]) (rest := []) (lenOf pd_11 rfl) rfl (by show 2 * 0 + _ ≤ _; exact Nat.le_of_eq rfl) (hb hby at_169) (fun _ _ => ⟨rfl, rfl, (by decide : 21 + 0 ≤ _), (by decide : 72 + 0 ≤ _)⟩)
    dsimp only [Pt.U, Pt.locs, Pt.cells, Pt.slots] at X810 l810 y810 z810 st810 hQ810
    obtain rfl : k810 = 21 := y810
    obtain rfl : n810 = 72 := z810
    obtain ⟨rfl, N810q, K810, dom810⟩ := hQ810
    have N810 : Fr n0 L810 := by rw [l810]; exact Fr.app N794 N810q
    have G813 : Go p e below A0 (T810.setTop (mkF m 172 #[.val (.int p0), .val (.int p1), .val (.int p2), .val (.int p3), .val (.int (0 : Int32)), .val (.int l5), .val (.int (0 : Int32)), .val (.int (1 : Int32)), .val (.int (3 : Int32)), .val (.int (2 : Int32)), .val (.int ((p0 &&& (2147483647 : Int32)) % (3 : Int32))), .val (.int ((p1 &&& (2147483647 : Int32)) % (3 : Int32))), .val (.int ((p2 &&& (2147483647 : Int32)) % (2 : Int32))), .val (.ref b714), .val (.ref b789), .unset, .unset, .unset, .unset, .unset, .unset, .unset] [(.int (1 : Int32))])) := fun tq kq => G809 tq (st810.trans kq)
    have G814 : Go p e below A0 (T810.setTop (mkF m 180 #[.val (.int p0), .val (.int p1), .val (.int p2), .val (.int p3), .val (.int (0 : Int32)), .val (.int l5), .val (.int (0 : Int32)), .val (.int (1 : Int32)), .val (.int (3 : Int32)), .val (.int (2 : Int32)), .val (.int ((p0 &&& (2147483647 : Int32)) % (3 : Int32))), .val (.int ((p1 &&& (2147483647 : Int32)) % (3 : Int32))), .val (.int ((p2 &&& (2147483647 : Int32)) % (2 : Int32))), .val (.ref b714), .val (.ref b789), .val (.int (1 : Int32)), .unset, .unset, .unset, .unset, .unset, .unset] [(.int ((p1 &&& (2147483647 : Int32)) % (3 : Int32))), (.int (0 : Int32)), (.ref b789)])) := fun tq kq => G813 tq (by
      refine XS.istore X810.here hx rfl (hb hby at_172) rfl (l' := #[.val (.int p0), .val (.int p1), .val (.int p2), .val (.int p3), .val (.int (0 : Int32)), .val (.int l5), .val (.int (0 : Int32)), .val (.int (1 : Int32)), .val (.int (3 : Int32)), .val (.int (2 : Int32)), .val (.int ((p0 &&& (2147483647 : Int32)) % (3 : Int32))), .val (.int ((p1 &&& (2147483647 : Int32)) % (3 : Int32))), .val (.int ((p2 &&& (2147483647 : Int32)) % (2 : Int32))), .val (.ref b714), .val (.ref b789), .val (.int (1 : Int32)), .unset, .unset, .unset, .unset, .unset, .unset]) rfl ?_
      show Steps p.tables e below (T810.setTop (mkF m 174 #[.val (.int p0), .val (.int p1), .val (.int p2), .val (.int p3), .val (.int (0 : Int32)), .val (.int l5), .val (.int (0 : Int32)), .val (.int (1 : Int32)), .val (.int (3 : Int32)), .val (.int (2 : Int32)), .val (.int ((p0 &&& (2147483647 : Int32)) % (3 : Int32))), .val (.int ((p1 &&& (2147483647 : Int32)) % (3 : Int32))), .val (.int ((p2 &&& (2147483647 : Int32)) % (2 : Int32))), .val (.ref b714), .val (.ref b789), .val (.int (1 : Int32)), .unset, .unset, .unset, .unset, .unset, .unset] [])) _
      refine XS.aload X810.here hx rfl (hb hby at_174) rfl rfl ?_
      show Steps p.tables e below (T810.setTop (mkF m 176 #[.val (.int p0), .val (.int p1), .val (.int p2), .val (.int p3), .val (.int (0 : Int32)), .val (.int l5), .val (.int (0 : Int32)), .val (.int (1 : Int32)), .val (.int (3 : Int32)), .val (.int (2 : Int32)), .val (.int ((p0 &&& (2147483647 : Int32)) % (3 : Int32))), .val (.int ((p1 &&& (2147483647 : Int32)) % (3 : Int32))), .val (.int ((p2 &&& (2147483647 : Int32)) % (2 : Int32))), .val (.ref b714), .val (.ref b789), .val (.int (1 : Int32)), .unset, .unset, .unset, .unset, .unset, .unset] [(.ref b789)])) _
      refine XS.iload X810.here hx rfl (hb hby at_176) rfl ?_
      show Steps p.tables e below (T810.setTop (mkF m 178 #[.val (.int p0), .val (.int p1), .val (.int p2), .val (.int p3), .val (.int (0 : Int32)), .val (.int l5), .val (.int (0 : Int32)), .val (.int (1 : Int32)), .val (.int (3 : Int32)), .val (.int (2 : Int32)), .val (.int ((p0 &&& (2147483647 : Int32)) % (3 : Int32))), .val (.int ((p1 &&& (2147483647 : Int32)) % (3 : Int32))), .val (.int ((p2 &&& (2147483647 : Int32)) % (2 : Int32))), .val (.ref b714), .val (.ref b789), .val (.int (1 : Int32)), .unset, .unset, .unset, .unset, .unset, .unset] [(.int (0 : Int32)), (.ref b789)])) _
      refine XS.iload X810.here hx rfl (hb hby at_178) rfl ?_
      show Steps p.tables e below (T810.setTop (mkF m 180 #[.val (.int p0), .val (.int p1), .val (.int p2), .val (.int p3), .val (.int (0 : Int32)), .val (.int l5), .val (.int (0 : Int32)), .val (.int (1 : Int32)), .val (.int (3 : Int32)), .val (.int (2 : Int32)), .val (.int ((p0 &&& (2147483647 : Int32)) % (3 : Int32))), .val (.int ((p1 &&& (2147483647 : Int32)) % (3 : Int32))), .val (.int ((p2 &&& (2147483647 : Int32)) % (2 : Int32))), .val (.ref b714), .val (.ref b789), .val (.int (1 : Int32)), .unset, .unset, .unset, .unset, .unset, .unset] [(.int ((p1 &&& (2147483647 : Int32)) % (3 : Int32))), (.int (0 : Int32)), (.ref b789)])) _
      exact kq)
    have f816 := (Nat.le_trans f811 K810.1)
    have f817 := (f812.keep K810)
    obtain ⟨cq815, kq815, q815a, q815b, q815c⟩ := isOf hZ rfl f817
    obtain ⟨_, _, ⟨T815, L815, k815, n815⟩, -, X815, ⟨Lc815, hQ815, l815, y815, z815⟩, st815⟩ := X810.virtualBack hx (y := (⟨"com/example/ludarc/ludarc/engine/Domains", "mark", "(II)Z"⟩ : MethodName)) (z := (⟨"com/example/ludarc/ludarc/engine/Domains", "mark", "(II)Z"⟩ : MethodName)) hown (mvT hZ (hw _ (List.mem_of_getElem? (i := 142) rfl))) (mvT hZ (hw _ (List.mem_of_getElem? (i := 143) rfl))) (notFace_of_selects (args := #[]) (mvT hZ (hw _ (List.mem_of_getElem? (i := 145) rfl)))) (mvT hZ (hw _ (List.mem_of_getElem? (i := 145) rfl))) (mvT hZ (hw _ (List.mem_of_getElem? (i := 144) rfl))) (by decide) (backOf (W := 0) (rmM0 l Z a0 hw [] b789 mem_ pos_ siz_ mrk_ m0_ p0_ k0_ m1_ p1_ k1_ (1 : Int32) (own_sz) (own_id) (own_id) (own_up (own_zero) (((p0 &&& (2147483647 : Int32)) % (3 : Int32))).toNatClampNeg (1 : Int32)) (own_id) (own_id) (own_zero) (own_b (¬ ((p1 &&& (2147483647 : Int32)) % (3 : Int32)) = ((p0 &&& (2147483647 : Int32)) % (3 : Int32)))) ((p1 &&& (2147483647 : Int32)) % (3 : Int32)) T810.heap n0 f816 ord794 dom810 hb_ (own_m2 ha.1 hb_.1)) hZ (hw _ (List.mem_of_getElem? (i := 146) rfl)) (hw _ (List.mem_of_getElem? (i := 87) rfl)) (by decide) (by decide)) q815a q815c (g := (mkF m 180 #[.val (.int p0), .val (.int p1), .val (.int p2), .val (.int p3), .val (.int (0 : Int32)), .val (.int l5), .val (.int (0 : Int32)), .val (.int (1 : Int32)), .val (.int (3 : Int32)), .val (.int (2 : Int32)), .val (.int ((p0 &&& (2147483647 : Int32)) % (3 : Int32))), .val (.int ((p1 &&& (2147483647 : Int32)) % (3 : Int32))), .val (.int ((p2 &&& (2147483647 : Int32)) % (2 : Int32))), .val (.ref b714), .val (.ref b789), .val (.int (1 : Int32)), .unset, .unset, .unset, .unset, .unset, .unset] [(.int ((p1 &&& (2147483647 : Int32)) % (3 : Int32))), (.int (0 : Int32)), (.ref b789)])) rfl (by rw [hml]; rfl) (Steps.refl _) (argsL := [(.int (0 : Int32)), (.int ((p1 &&& (2147483647 : Int32)) % (3 : Int32)))]) (rest := []) (lenOf pd_11 rfl) rfl (by show 2 * 0 + _ ≤ _; exact Nat.le_of_eq rfl) (hb hby at_180) (fun _ _ => ⟨rfl, rfl, (by decide : 21 + 0 ≤ _), (by decide : 72 + 0 ≤ _)⟩)
    dsimp only [Pt.U, Pt.locs, Pt.cells, Pt.slots] at X815 l815 y815 z815 st815 hQ815
    obtain rfl : k815 = 21 := y815
    obtain rfl : n815 = 72 := z815
    obtain ⟨rfl, N815q, K815, dom815⟩ := hQ815
    have N815 : Fr n0 L815 := by rw [l815]; exact Fr.app N810 N815q
    have G818 : Go p e below A0 (T815.setTop (mkF m 183 #[.val (.int p0), .val (.int p1), .val (.int p2), .val (.int p3), .val (.int (0 : Int32)), .val (.int l5), .val (.int (0 : Int32)), .val (.int (1 : Int32)), .val (.int (3 : Int32)), .val (.int (2 : Int32)), .val (.int ((p0 &&& (2147483647 : Int32)) % (3 : Int32))), .val (.int ((p1 &&& (2147483647 : Int32)) % (3 : Int32))), .val (.int ((p2 &&& (2147483647 : Int32)) % (2 : Int32))), .val (.ref b714), .val (.ref b789), .val (.int (1 : Int32)), .unset, .unset, .unset, .unset, .unset, .unset] [(.int (own_b (¬ ((p1 &&& (2147483647 : Int32)) % (3 : Int32)) = ((p0 &&& (2147483647 : Int32)) % (3 : Int32)))))])) := fun tq kq => G814 tq (st815.trans kq)
    have G819 : Go p e below A0 (T815.setTop (mkF m 191 #[.val (.int p0), .val (.int p1), .val (.int p2), .val (.int p3), .val (.int (0 : Int32)), .val (.int l5), .val (.int (0 : Int32)), .val (.int (1 : Int32)), .val (.int (3 : Int32)), .val (.int (2 : Int32)), .val (.int ((p0 &&& (2147483647 : Int32)) % (3 : Int32))), .val (.int ((p1 &&& (2147483647 : Int32)) % (3 : Int32))), .val (.int ((p2 &&& (2147483647 : Int32)) % (2 : Int32))), .val (.ref b714), .val (.ref b789), .val (.int (1 : Int32)), .val (.int (own_b (¬ ((p1 &&& (2147483647 : Int32)) % (3 : Int32)) = ((p0 &&& (2147483647 : Int32)) % (3 : Int32))))), .unset, .unset, .unset, .unset, .unset] [(.int ((p2 &&& (2147483647 : Int32)) % (2 : Int32))), (.int (1 : Int32)), (.ref b789)])) := fun tq kq => G818 tq (by
      refine XS.istore X815.here hx rfl (hb hby at_183) rfl (l' := #[.val (.int p0), .val (.int p1), .val (.int p2), .val (.int p3), .val (.int (0 : Int32)), .val (.int l5), .val (.int (0 : Int32)), .val (.int (1 : Int32)), .val (.int (3 : Int32)), .val (.int (2 : Int32)), .val (.int ((p0 &&& (2147483647 : Int32)) % (3 : Int32))), .val (.int ((p1 &&& (2147483647 : Int32)) % (3 : Int32))), .val (.int ((p2 &&& (2147483647 : Int32)) % (2 : Int32))), .val (.ref b714), .val (.ref b789), .val (.int (1 : Int32)), .val (.int (own_b (¬ ((p1 &&& (2147483647 : Int32)) % (3 : Int32)) = ((p0 &&& (2147483647 : Int32)) % (3 : Int32))))), .unset, .unset, .unset, .unset, .unset]) rfl ?_
      show Steps p.tables e below (T815.setTop (mkF m 185 #[.val (.int p0), .val (.int p1), .val (.int p2), .val (.int p3), .val (.int (0 : Int32)), .val (.int l5), .val (.int (0 : Int32)), .val (.int (1 : Int32)), .val (.int (3 : Int32)), .val (.int (2 : Int32)), .val (.int ((p0 &&& (2147483647 : Int32)) % (3 : Int32))), .val (.int ((p1 &&& (2147483647 : Int32)) % (3 : Int32))), .val (.int ((p2 &&& (2147483647 : Int32)) % (2 : Int32))), .val (.ref b714), .val (.ref b789), .val (.int (1 : Int32)), .val (.int (own_b (¬ ((p1 &&& (2147483647 : Int32)) % (3 : Int32)) = ((p0 &&& (2147483647 : Int32)) % (3 : Int32))))), .unset, .unset, .unset, .unset, .unset] [])) _
      refine XS.aload X815.here hx rfl (hb hby at_185) rfl rfl ?_
      show Steps p.tables e below (T815.setTop (mkF m 187 #[.val (.int p0), .val (.int p1), .val (.int p2), .val (.int p3), .val (.int (0 : Int32)), .val (.int l5), .val (.int (0 : Int32)), .val (.int (1 : Int32)), .val (.int (3 : Int32)), .val (.int (2 : Int32)), .val (.int ((p0 &&& (2147483647 : Int32)) % (3 : Int32))), .val (.int ((p1 &&& (2147483647 : Int32)) % (3 : Int32))), .val (.int ((p2 &&& (2147483647 : Int32)) % (2 : Int32))), .val (.ref b714), .val (.ref b789), .val (.int (1 : Int32)), .val (.int (own_b (¬ ((p1 &&& (2147483647 : Int32)) % (3 : Int32)) = ((p0 &&& (2147483647 : Int32)) % (3 : Int32))))), .unset, .unset, .unset, .unset, .unset] [(.ref b789)])) _
      refine XS.iload X815.here hx rfl (hb hby at_187) rfl ?_
      show Steps p.tables e below (T815.setTop (mkF m 189 #[.val (.int p0), .val (.int p1), .val (.int p2), .val (.int p3), .val (.int (0 : Int32)), .val (.int l5), .val (.int (0 : Int32)), .val (.int (1 : Int32)), .val (.int (3 : Int32)), .val (.int (2 : Int32)), .val (.int ((p0 &&& (2147483647 : Int32)) % (3 : Int32))), .val (.int ((p1 &&& (2147483647 : Int32)) % (3 : Int32))), .val (.int ((p2 &&& (2147483647 : Int32)) % (2 : Int32))), .val (.ref b714), .val (.ref b789), .val (.int (1 : Int32)), .val (.int (own_b (¬ ((p1 &&& (2147483647 : Int32)) % (3 : Int32)) = ((p0 &&& (2147483647 : Int32)) % (3 : Int32))))), .unset, .unset, .unset, .unset, .unset] [(.int (1 : Int32)), (.ref b789)])) _
      refine XS.iload X815.here hx rfl (hb hby at_189) rfl ?_
      show Steps p.tables e below (T815.setTop (mkF m 191 #[.val (.int p0), .val (.int p1), .val (.int p2), .val (.int p3), .val (.int (0 : Int32)), .val (.int l5), .val (.int (0 : Int32)), .val (.int (1 : Int32)), .val (.int (3 : Int32)), .val (.int (2 : Int32)), .val (.int ((p0 &&& (2147483647 : Int32)) % (3 : Int32))), .val (.int ((p1 &&& (2147483647 : Int32)) % (3 : Int32))), .val (.int ((p2 &&& (2147483647 : Int32)) % (2 : Int32))), .val (.ref b714), .val (.ref b789), .val (.int (1 : Int32)), .val (.int (own_b (¬ ((p1 &&& (2147483647 : Int32)) % (3 : Int32)) = ((p0 &&& (2147483647 : Int32)) % (3 : Int32))))), .unset, .unset, .unset, .unset, .unset] [(.int ((p2 &&& (2147483647 : Int32)) % (2 : Int32))), (.int (1 : Int32)), (.ref b789)])) _
      exact kq)
    have f821 := (Nat.le_trans f816 K815.1)
    have f822 := (f817.keep K815)
    obtain ⟨cq820, kq820, q820a, q820b, q820c⟩ := isOf hZ rfl f822
    obtain ⟨_, _, ⟨T820, L820, k820, n820⟩, -, X820, ⟨Lc820, hQ820, l820, y820, z820⟩, st820⟩ := X815.virtualBack hx (y := (⟨"com/example/ludarc/ludarc/engine/Domains", "mark", "(II)Z"⟩ : MethodName)) (z := (⟨"com/example/ludarc/ludarc/engine/Domains", "mark", "(II)Z"⟩ : MethodName)) hown (mvT hZ (hw _ (List.mem_of_getElem? (i := 142) rfl))) (mvT hZ (hw _ (List.mem_of_getElem? (i := 143) rfl))) (notFace_of_selects (args := #[]) (mvT hZ (hw _ (List.mem_of_getElem? (i := 145) rfl)))) (mvT hZ (hw _ (List.mem_of_getElem? (i := 145) rfl))) (mvT hZ (hw _ (List.mem_of_getElem? (i := 144) rfl))) (by decide) (backOf (W := 0) (rmM1 l Z a0 hw [] b789 mem_ pos_ siz_ mrk_ m0_ p0_ k0_ m1_ p1_ k1_ (1 : Int32) (own_sz) (own_id) (own_id) (own_up (own_up (own_zero) (((p0 &&& (2147483647 : Int32)) % (3 : Int32))).toNatClampNeg (1 : Int32)) (((p1 &&& (2147483647 : Int32)) % (3 : Int32))).toNatClampNeg (1 : Int32)) (own_id) (own_id) (own_zero) (1 : Int32) ((p2 &&& (2147483647 : Int32)) % (2 : Int32)) T815.heap n0 f821 ord794 dom815 hc_ (own_bt (own_upz _))) hZ (hw _ (List.mem_of_getElem? (i := 146) rfl)) (hw _ (List.mem_of_getElem? (i := 87) rfl)) (by decide) (by decide)) q820a q820c (g := (mkF m 191 #[.val (.int p0), .val (.int p1), .val (.int p2), .val (.int p3), .val (.int (0 : Int32)), .val (.int l5), .val (.int (0 : Int32)), .val (.int (1 : Int32)), .val (.int (3 : Int32)), .val (.int (2 : Int32)), .val (.int ((p0 &&& (2147483647 : Int32)) % (3 : Int32))), .val (.int ((p1 &&& (2147483647 : Int32)) % (3 : Int32))), .val (.int ((p2 &&& (2147483647 : Int32)) % (2 : Int32))), .val (.ref b714), .val (.ref b789), .val (.int (1 : Int32)), .val (.int (own_b (¬ ((p1 &&& (2147483647 : Int32)) % (3 : Int32)) = ((p0 &&& (2147483647 : Int32)) % (3 : Int32))))), .unset, .unset, .unset, .unset, .unset] [(.int ((p2 &&& (2147483647 : Int32)) % (2 : Int32))), (.int (1 : Int32)), (.ref b789)])) rfl (by rw [hml]; rfl) (Steps.refl _) (argsL := [(.int (1 : Int32)), (.int ((p2 &&& (2147483647 : Int32)) % (2 : Int32)))]) (rest := []) (lenOf pd_11 rfl) rfl (by show 2 * 0 + _ ≤ _; exact Nat.le_of_eq rfl) (hb hby at_191) (fun _ _ => ⟨rfl, rfl, (by decide : 21 + 0 ≤ _), (by decide : 72 + 0 ≤ _)⟩)
    dsimp only [Pt.U, Pt.locs, Pt.cells, Pt.slots] at X820 l820 y820 z820 st820 hQ820
    obtain rfl : k820 = 21 := y820
    obtain rfl : n820 = 72 := z820
    obtain ⟨rfl, N820q, K820, dom820⟩ := hQ820
    have N820 : Fr n0 L820 := by rw [l820]; exact Fr.app N815 N820q
    have G823 : Go p e below A0 (T820.setTop (mkF m 194 #[.val (.int p0), .val (.int p1), .val (.int p2), .val (.int p3), .val (.int (0 : Int32)), .val (.int l5), .val (.int (0 : Int32)), .val (.int (1 : Int32)), .val (.int (3 : Int32)), .val (.int (2 : Int32)), .val (.int ((p0 &&& (2147483647 : Int32)) % (3 : Int32))), .val (.int ((p1 &&& (2147483647 : Int32)) % (3 : Int32))), .val (.int ((p2 &&& (2147483647 : Int32)) % (2 : Int32))), .val (.ref b714), .val (.ref b789), .val (.int (1 : Int32)), .val (.int (own_b (¬ ((p1 &&& (2147483647 : Int32)) % (3 : Int32)) = ((p0 &&& (2147483647 : Int32)) % (3 : Int32))))), .unset, .unset, .unset, .unset, .unset] [(.int (1 : Int32))])) := fun tq kq => G819 tq (st820.trans kq)
    have G824 : Go p e below A0 (T820.setTop (mkF m 202 #[.val (.int p0), .val (.int p1), .val (.int p2), .val (.int p3), .val (.int (0 : Int32)), .val (.int l5), .val (.int (0 : Int32)), .val (.int (1 : Int32)), .val (.int (3 : Int32)), .val (.int (2 : Int32)), .val (.int ((p0 &&& (2147483647 : Int32)) % (3 : Int32))), .val (.int ((p1 &&& (2147483647 : Int32)) % (3 : Int32))), .val (.int ((p2 &&& (2147483647 : Int32)) % (2 : Int32))), .val (.ref b714), .val (.ref b789), .val (.int (1 : Int32)), .val (.int (own_b (¬ ((p1 &&& (2147483647 : Int32)) % (3 : Int32)) = ((p0 &&& (2147483647 : Int32)) % (3 : Int32))))), .val (.int (1 : Int32)), .unset, .unset, .unset, .unset] [(.int ((p0 &&& (2147483647 : Int32)) % (3 : Int32))), (.int (0 : Int32)), (.ref b789)])) := fun tq kq => G823 tq (by
      refine XS.istore X820.here hx rfl (hb hby at_194) rfl (l' := #[.val (.int p0), .val (.int p1), .val (.int p2), .val (.int p3), .val (.int (0 : Int32)), .val (.int l5), .val (.int (0 : Int32)), .val (.int (1 : Int32)), .val (.int (3 : Int32)), .val (.int (2 : Int32)), .val (.int ((p0 &&& (2147483647 : Int32)) % (3 : Int32))), .val (.int ((p1 &&& (2147483647 : Int32)) % (3 : Int32))), .val (.int ((p2 &&& (2147483647 : Int32)) % (2 : Int32))), .val (.ref b714), .val (.ref b789), .val (.int (1 : Int32)), .val (.int (own_b (¬ ((p1 &&& (2147483647 : Int32)) % (3 : Int32)) = ((p0 &&& (2147483647 : Int32)) % (3 : Int32))))), .val (.int (1 : Int32)), .unset, .unset, .unset, .unset]) rfl ?_
      show Steps p.tables e below (T820.setTop (mkF m 196 #[.val (.int p0), .val (.int p1), .val (.int p2), .val (.int p3), .val (.int (0 : Int32)), .val (.int l5), .val (.int (0 : Int32)), .val (.int (1 : Int32)), .val (.int (3 : Int32)), .val (.int (2 : Int32)), .val (.int ((p0 &&& (2147483647 : Int32)) % (3 : Int32))), .val (.int ((p1 &&& (2147483647 : Int32)) % (3 : Int32))), .val (.int ((p2 &&& (2147483647 : Int32)) % (2 : Int32))), .val (.ref b714), .val (.ref b789), .val (.int (1 : Int32)), .val (.int (own_b (¬ ((p1 &&& (2147483647 : Int32)) % (3 : Int32)) = ((p0 &&& (2147483647 : Int32)) % (3 : Int32))))), .val (.int (1 : Int32)), .unset, .unset, .unset, .unset] [])) _
      refine XS.aload X820.here hx rfl (hb hby at_196) rfl rfl ?_
      show Steps p.tables e below (T820.setTop (mkF m 198 #[.val (.int p0), .val (.int p1), .val (.int p2), .val (.int p3), .val (.int (0 : Int32)), .val (.int l5), .val (.int (0 : Int32)), .val (.int (1 : Int32)), .val (.int (3 : Int32)), .val (.int (2 : Int32)), .val (.int ((p0 &&& (2147483647 : Int32)) % (3 : Int32))), .val (.int ((p1 &&& (2147483647 : Int32)) % (3 : Int32))), .val (.int ((p2 &&& (2147483647 : Int32)) % (2 : Int32))), .val (.ref b714), .val (.ref b789), .val (.int (1 : Int32)), .val (.int (own_b (¬ ((p1 &&& (2147483647 : Int32)) % (3 : Int32)) = ((p0 &&& (2147483647 : Int32)) % (3 : Int32))))), .val (.int (1 : Int32)), .unset, .unset, .unset, .unset] [(.ref b789)])) _
      refine XS.iload X820.here hx rfl (hb hby at_198) rfl ?_
      show Steps p.tables e below (T820.setTop (mkF m 200 #[.val (.int p0), .val (.int p1), .val (.int p2), .val (.int p3), .val (.int (0 : Int32)), .val (.int l5), .val (.int (0 : Int32)), .val (.int (1 : Int32)), .val (.int (3 : Int32)), .val (.int (2 : Int32)), .val (.int ((p0 &&& (2147483647 : Int32)) % (3 : Int32))), .val (.int ((p1 &&& (2147483647 : Int32)) % (3 : Int32))), .val (.int ((p2 &&& (2147483647 : Int32)) % (2 : Int32))), .val (.ref b714), .val (.ref b789), .val (.int (1 : Int32)), .val (.int (own_b (¬ ((p1 &&& (2147483647 : Int32)) % (3 : Int32)) = ((p0 &&& (2147483647 : Int32)) % (3 : Int32))))), .val (.int (1 : Int32)), .unset, .unset, .unset, .unset] [(.int (0 : Int32)), (.ref b789)])) _
      refine XS.iload X820.here hx rfl (hb hby at_200) rfl ?_
      show Steps p.tables e below (T820.setTop (mkF m 202 #[.val (.int p0), .val (.int p1), .val (.int p2), .val (.int p3), .val (.int (0 : Int32)), .val (.int l5), .val (.int (0 : Int32)), .val (.int (1 : Int32)), .val (.int (3 : Int32)), .val (.int (2 : Int32)), .val (.int ((p0 &&& (2147483647 : Int32)) % (3 : Int32))), .val (.int ((p1 &&& (2147483647 : Int32)) % (3 : Int32))), .val (.int ((p2 &&& (2147483647 : Int32)) % (2 : Int32))), .val (.ref b714), .val (.ref b789), .val (.int (1 : Int32)), .val (.int (own_b (¬ ((p1 &&& (2147483647 : Int32)) % (3 : Int32)) = ((p0 &&& (2147483647 : Int32)) % (3 : Int32))))), .val (.int (1 : Int32)), .unset, .unset, .unset, .unset] [(.int ((p0 &&& (2147483647 : Int32)) % (3 : Int32))), (.int (0 : Int32)), (.ref b789)])) _
      exact kq)
    have f826 := (Nat.le_trans f821 K820.1)
    have f827 := (f822.keep K820)
    obtain ⟨cq825, kq825, q825a, q825b, q825c⟩ := isOf hZ rfl f827
    obtain ⟨_, _, ⟨T825, L825, k825, n825⟩, -, X825, ⟨Lc825, hQ825, l825, y825, z825⟩, st825⟩ := X820.virtualBack hx (y := (⟨"com/example/ludarc/ludarc/engine/Domains", "mark", "(II)Z"⟩ : MethodName)) (z := (⟨"com/example/ludarc/ludarc/engine/Domains", "mark", "(II)Z"⟩ : MethodName)) hown (mvT hZ (hw _ (List.mem_of_getElem? (i := 142) rfl))) (mvT hZ (hw _ (List.mem_of_getElem? (i := 143) rfl))) (notFace_of_selects (args := #[]) (mvT hZ (hw _ (List.mem_of_getElem? (i := 145) rfl)))) (mvT hZ (hw _ (List.mem_of_getElem? (i := 145) rfl))) (mvT hZ (hw _ (List.mem_of_getElem? (i := 144) rfl))) (by decide) (backOf (W := 0) (rmM0 l Z a0 hw [] b789 mem_ pos_ siz_ mrk_ m0_ p0_ k0_ m1_ p1_ k1_ (1 : Int32) (own_sz) (own_id) (own_id) (own_up (own_up (own_zero) (((p0 &&& (2147483647 : Int32)) % (3 : Int32))).toNatClampNeg (1 : Int32)) (((p1 &&& (2147483647 : Int32)) % (3 : Int32))).toNatClampNeg (1 : Int32)) (own_id) (own_id) (own_up (own_zero) (((p2 &&& (2147483647 : Int32)) % (2 : Int32))).toNatClampNeg (1 : Int32)) (0 : Int32) ((p0 &&& (2147483647 : Int32)) % (3 : Int32)) T820.heap n0 f826 ord794 dom820 ha (own_b0 (fun q => q (by simp [own_up])))) hZ (hw _ (List.mem_of_getElem? (i := 146) rfl)) (hw _ (List.mem_of_getElem? (i := 87) rfl)) (by decide) (by decide)) q825a q825c (g := (mkF m 202 #[.val (.int p0), .val (.int p1), .val (.int p2), .val (.int p3), .val (.int (0 : Int32)), .val (.int l5), .val (.int (0 : Int32)), .val (.int (1 : Int32)), .val (.int (3 : Int32)), .val (.int (2 : Int32)), .val (.int ((p0 &&& (2147483647 : Int32)) % (3 : Int32))), .val (.int ((p1 &&& (2147483647 : Int32)) % (3 : Int32))), .val (.int ((p2 &&& (2147483647 : Int32)) % (2 : Int32))), .val (.ref b714), .val (.ref b789), .val (.int (1 : Int32)), .val (.int (own_b (¬ ((p1 &&& (2147483647 : Int32)) % (3 : Int32)) = ((p0 &&& (2147483647 : Int32)) % (3 : Int32))))), .val (.int (1 : Int32)), .unset, .unset, .unset, .unset] [(.int ((p0 &&& (2147483647 : Int32)) % (3 : Int32))), (.int (0 : Int32)), (.ref b789)])) rfl (by rw [hml]; rfl) (Steps.refl _) (argsL := [(.int (0 : Int32)), (.int ((p0 &&& (2147483647 : Int32)) % (3 : Int32)))]) (rest := []) (lenOf pd_11 rfl) rfl (by show 2 * 0 + _ ≤ _; exact Nat.le_of_eq rfl) (hb hby at_202) (fun _ _ => ⟨rfl, rfl, (by decide : 21 + 0 ≤ _), (by decide : 72 + 0 ≤ _)⟩)
    dsimp only [Pt.U, Pt.locs, Pt.cells, Pt.slots] at X825 l825 y825 z825 st825 hQ825
    obtain rfl : k825 = 21 := y825
    obtain rfl : n825 = 72 := z825
    obtain ⟨rfl, N825q, K825, dom825⟩ := hQ825
    have N825 : Fr n0 L825 := by rw [l825]; exact Fr.app N820 N825q
    have G828 : Go p e below A0 (T825.setTop (mkF m 205 #[.val (.int p0), .val (.int p1), .val (.int p2), .val (.int p3), .val (.int (0 : Int32)), .val (.int l5), .val (.int (0 : Int32)), .val (.int (1 : Int32)), .val (.int (3 : Int32)), .val (.int (2 : Int32)), .val (.int ((p0 &&& (2147483647 : Int32)) % (3 : Int32))), .val (.int ((p1 &&& (2147483647 : Int32)) % (3 : Int32))), .val (.int ((p2 &&& (2147483647 : Int32)) % (2 : Int32))), .val (.ref b714), .val (.ref b789), .val (.int (1 : Int32)), .val (.int (own_b (¬ ((p1 &&& (2147483647 : Int32)) % (3 : Int32)) = ((p0 &&& (2147483647 : Int32)) % (3 : Int32))))), .val (.int (1 : Int32)), .unset, .unset, .unset, .unset] [(.int (0 : Int32))])) := fun tq kq => G824 tq (st825.trans kq)
    have G829 : Go p e below A0 (T825.setTop (mkF m 207 #[.val (.int p0), .val (.int p1), .val (.int p2), .val (.int p3), .val (.int (0 : Int32)), .val (.int l5), .val (.int (0 : Int32)), .val (.int (1 : Int32)), .val (.int (3 : Int32)), .val (.int (2 : Int32)), .val (.int ((p0 &&& (2147483647 : Int32)) % (3 : Int32))), .val (.int ((p1 &&& (2147483647 : Int32)) % (3 : Int32))), .val (.int ((p2 &&& (2147483647 : Int32)) % (2 : Int32))), .val (.ref b714), .val (.ref b789), .val (.int (1 : Int32)), .val (.int (own_b (¬ ((p1 &&& (2147483647 : Int32)) % (3 : Int32)) = ((p0 &&& (2147483647 : Int32)) % (3 : Int32))))), .val (.int (1 : Int32)), .val (.int (0 : Int32)), .unset, .unset, .unset] [])) := fun tq kq => G828 tq (by
      refine XS.istore X825.here hx rfl (hb hby at_205) rfl (l' := #[.val (.int p0), .val (.int p1), .val (.int p2), .val (.int p3), .val (.int (0 : Int32)), .val (.int l5), .val (.int (0 : Int32)), .val (.int (1 : Int32)), .val (.int (3 : Int32)), .val (.int (2 : Int32)), .val (.int ((p0 &&& (2147483647 : Int32)) % (3 : Int32))), .val (.int ((p1 &&& (2147483647 : Int32)) % (3 : Int32))), .val (.int ((p2 &&& (2147483647 : Int32)) % (2 : Int32))), .val (.ref b714), .val (.ref b789), .val (.int (1 : Int32)), .val (.int (own_b (¬ ((p1 &&& (2147483647 : Int32)) % (3 : Int32)) = ((p0 &&& (2147483647 : Int32)) % (3 : Int32))))), .val (.int (1 : Int32)), .val (.int (0 : Int32)), .unset, .unset, .unset]) rfl ?_
      show Steps p.tables e below (T825.setTop (mkF m 207 #[.val (.int p0), .val (.int p1), .val (.int p2), .val (.int p3), .val (.int (0 : Int32)), .val (.int l5), .val (.int (0 : Int32)), .val (.int (1 : Int32)), .val (.int (3 : Int32)), .val (.int (2 : Int32)), .val (.int ((p0 &&& (2147483647 : Int32)) % (3 : Int32))), .val (.int ((p1 &&& (2147483647 : Int32)) % (3 : Int32))), .val (.int ((p2 &&& (2147483647 : Int32)) % (2 : Int32))), .val (.ref b714), .val (.ref b789), .val (.int (1 : Int32)), .val (.int (own_b (¬ ((p1 &&& (2147483647 : Int32)) % (3 : Int32)) = ((p0 &&& (2147483647 : Int32)) % (3 : Int32))))), .val (.int (1 : Int32)), .val (.int (0 : Int32)), .unset, .unset, .unset] [])) _
      exact kq)
    rcases h5 with rfl | rfl
    · skip
      have G830 : Go p e below A0 (T825.setTop (mkF m 223 #[.val (.int p0), .val (.int p1), .val (.int p2), .val (.int p3), .val (.int (0 : Int32)), .val (.int (0 : Int32)), .val (.int (0 : Int32)), .val (.int (1 : Int32)), .val (.int (3 : Int32)), .val (.int (2 : Int32)), .val (.int ((p0 &&& (2147483647 : Int32)) % (3 : Int32))), .val (.int ((p1 &&& (2147483647 : Int32)) % (3 : Int32))), .val (.int ((p2 &&& (2147483647 : Int32)) % (2 : Int32))), .val (.ref b714), .val (.ref b789), .val (.int (1 : Int32)), .val (.int (own_b (¬ ((p1 &&& (2147483647 : Int32)) % (3 : Int32)) = ((p0 &&& (2147483647 : Int32)) % (3 : Int32))))), .val (.int (1 : Int32)), .val (.int (0 : Int32)), .unset, .unset, .unset] [(.int ((p1 &&& (2147483647 : Int32)) % (3 : Int32))), (.int (0 : Int32)), (.ref b789)])) := fun tq kq => G829 tq (by
        refine XS.iload X825.here hx rfl (hb hby at_207) rfl ?_
        show Steps p.tables e below (T825.setTop (mkF m 209 #[.val (.int p0), .val (.int p1), .val (.int p2), .val (.int p3), .val (.int (0 : Int32)), .val (.int (0 : Int32)), .val (.int (0 : Int32)), .val (.int (1 : Int32)), .val (.int (3 : Int32)), .val (.int (2 : Int32)), .val (.int ((p0 &&& (2147483647 : Int32)) % (3 : Int32))), .val (.int ((p1 &&& (2147483647 : Int32)) % (3 : Int32))), .val (.int ((p2 &&& (2147483647 : Int32)) % (2 : Int32))), .val (.ref b714), .val (.ref b789), .val (.int (1 : Int32)), .val (.int (own_b (¬ ((p1 &&& (2147483647 : Int32)) % (3 : Int32)) = ((p0 &&& (2147483647 : Int32)) % (3 : Int32))))), .val (.int (1 : Int32)), .val (.int (0 : Int32)), .unset, .unset, .unset] [(.int (0 : Int32))])) _
        refine XS.ifYes X825.here hx rfl (pc0 := 209) (pc' := 217) rfl (hb hby at_209) rfl (by decide) (by decide) (by decide) ?_
        show Steps p.tables e below (T825.setTop (mkF m 217 #[.val (.int p0), .val (.int p1), .val (.int p2), .val (.int p3), .val (.int (0 : Int32)), .val (.int (0 : Int32)), .val (.int (0 : Int32)), .val (.int (1 : Int32)), .val (.int (3 : Int32)), .val (.int (2 : Int32)), .val (.int ((p0 &&& (2147483647 : Int32)) % (3 : Int32))), .val (.int ((p1 &&& (2147483647 : Int32)) % (3 : Int32))), .val (.int ((p2 &&& (2147483647 : Int32)) % (2 : Int32))), .val (.ref b714), .val (.ref b789), .val (.int (1 : Int32)), .val (.int (own_b (¬ ((p1 &&& (2147483647 : Int32)) % (3 : Int32)) = ((p0 &&& (2147483647 : Int32)) % (3 : Int32))))), .val (.int (1 : Int32)), .val (.int (0 : Int32)), .unset, .unset, .unset] [])) _
        refine XS.aload X825.here hx rfl (hb hby at_217) rfl rfl ?_
        show Steps p.tables e below (T825.setTop (mkF m 219 #[.val (.int p0), .val (.int p1), .val (.int p2), .val (.int p3), .val (.int (0 : Int32)), .val (.int (0 : Int32)), .val (.int (0 : Int32)), .val (.int (1 : Int32)), .val (.int (3 : Int32)), .val (.int (2 : Int32)), .val (.int ((p0 &&& (2147483647 : Int32)) % (3 : Int32))), .val (.int ((p1 &&& (2147483647 : Int32)) % (3 : Int32))), .val (.int ((p2 &&& (2147483647 : Int32)) % (2 : Int32))), .val (.ref b714), .val (.ref b789), .val (.int (1 : Int32)), .val (.int (own_b (¬ ((p1 &&& (2147483647 : Int32)) % (3 : Int32)) = ((p0 &&& (2147483647 : Int32)) % (3 : Int32))))), .val (.int (1 : Int32)), .val (.int (0 : Int32)), .unset, .unset, .unset] [(.ref b789)])) _
        refine XS.iload X825.here hx rfl (hb hby at_219) rfl ?_
        show Steps p.tables e below (T825.setTop (mkF m 221 #[.val (.int p0), .val (.int p1), .val (.int p2), .val (.int p3), .val (.int (0 : Int32)), .val (.int (0 : Int32)), .val (.int (0 : Int32)), .val (.int (1 : Int32)), .val (.int (3 : Int32)), .val (.int (2 : Int32)), .val (.int ((p0 &&& (2147483647 : Int32)) % (3 : Int32))), .val (.int ((p1 &&& (2147483647 : Int32)) % (3 : Int32))), .val (.int ((p2 &&& (2147483647 : Int32)) % (2 : Int32))), .val (.ref b714), .val (.ref b789), .val (.int (1 : Int32)), .val (.int (own_b (¬ ((p1 &&& (2147483647 : Int32)) % (3 : Int32)) = ((p0 &&& (2147483647 : Int32)) % (3 : Int32))))), .val (.int (1 : Int32)), .val (.int (0 : Int32)), .unset, .unset, .unset] [(.int (0 : Int32)), (.ref b789)])) _
        refine XS.iload X825.here hx rfl (hb hby at_221) rfl ?_
        show Steps p.tables e below (T825.setTop (mkF m 223 #[.val (.int p0), .val (.int p1), .val (.int p2), .val (.int p3), .val (.int (0 : Int32)), .val (.int (0 : Int32)), .val (.int (0 : Int32)), .val (.int (1 : Int32)), .val (.int (3 : Int32)), .val (.int (2 : Int32)), .val (.int ((p0 &&& (2147483647 : Int32)) % (3 : Int32))), .val (.int ((p1 &&& (2147483647 : Int32)) % (3 : Int32))), .val (.int ((p2 &&& (2147483647 : Int32)) % (2 : Int32))), .val (.ref b714), .val (.ref b789), .val (.int (1 : Int32)), .val (.int (own_b (¬ ((p1 &&& (2147483647 : Int32)) % (3 : Int32)) = ((p0 &&& (2147483647 : Int32)) % (3 : Int32))))), .val (.int (1 : Int32)), .val (.int (0 : Int32)), .unset, .unset, .unset] [(.int ((p1 &&& (2147483647 : Int32)) % (3 : Int32))), (.int (0 : Int32)), (.ref b789)])) _
        exact kq)
      have f832 := (Nat.le_trans f826 K825.1)
      have f833 := (f827.keep K825)
      obtain ⟨cq831, kq831, q831a, q831b, q831c⟩ := isOf hZ rfl f833
      obtain ⟨_, _, ⟨T831, L831, k831, n831⟩, -, X831, ⟨Lc831, hQ831, l831, y831, z831⟩, st831⟩ := X825.virtualBack hx (y := (⟨"com/example/ludarc/ludarc/engine/Domains", "mark", "(II)Z"⟩ : MethodName)) (z := (⟨"com/example/ludarc/ludarc/engine/Domains", "mark", "(II)Z"⟩ : MethodName)) hown (mvT hZ (hw _ (List.mem_of_getElem? (i := 142) rfl))) (mvT hZ (hw _ (List.mem_of_getElem? (i := 143) rfl))) (notFace_of_selects (args := #[]) (mvT hZ (hw _ (List.mem_of_getElem? (i := 145) rfl)))) (mvT hZ (hw _ (List.mem_of_getElem? (i := 145) rfl))) (mvT hZ (hw _ (List.mem_of_getElem? (i := 144) rfl))) (by decide) (backOf (W := 0) (rmM0 l Z a0 hw [] b789 mem_ pos_ siz_ mrk_ m0_ p0_ k0_ m1_ p1_ k1_ (1 : Int32) (own_sz) (own_id) (own_id) (own_up (own_up (own_up (own_zero) (((p0 &&& (2147483647 : Int32)) % (3 : Int32))).toNatClampNeg (1 : Int32)) (((p1 &&& (2147483647 : Int32)) % (3 : Int32))).toNatClampNeg (1 : Int32)) (((p0 &&& (2147483647 : Int32)) % (3 : Int32))).toNatClampNeg (1 : Int32)) (own_id) (own_id) (own_up (own_zero) (((p2 &&& (2147483647 : Int32)) % (2 : Int32))).toNatClampNeg (1 : Int32)) (0 : Int32) ((p1 &&& (2147483647 : Int32)) % (3 : Int32)) T825.heap n0 f832 ord794 dom825 hb_ (own_b0 (fun q => q (by simp [own_up])))) hZ (hw _ (List.mem_of_getElem? (i := 146) rfl)) (hw _ (List.mem_of_getElem? (i := 87) rfl)) (by decide) (by decide)) q831a q831c (g := (mkF m 223 #[.val (.int p0), .val (.int p1), .val (.int p2), .val (.int p3), .val (.int (0 : Int32)), .val (.int (0 : Int32)), .val (.int (0 : Int32)), .val (.int (1 : Int32)), .val (.int (3 : Int32)), .val (.int (2 : Int32)), .val (.int ((p0 &&& (2147483647 : Int32)) % (3 : Int32))), .val (.int ((p1 &&& (2147483647 : Int32)) % (3 : Int32))), .val (.int ((p2 &&& (2147483647 : Int32)) % (2 : Int32))), .val (.ref b714), .val (.ref b789), .val (.int (1 : Int32)), .val (.int (own_b (¬ ((p1 &&& (2147483647 : Int32)) % (3 : Int32)) = ((p0 &&& (2147483647 : Int32)) % (3 : Int32))))), .val (.int (1 : Int32)), .val (.int (0 : Int32)), .unset, .unset, .unset] [(.int ((p1 &&& (2147483647 : Int32)) % (3 : Int32))), (.int (0 : Int32)), (.ref b789)])) rfl (by rw [hml]; rfl) (Steps.refl _) (argsL := [(.int (0 : Int32)), (.int ((p1 &&& (2147483647 : Int32)) % (3 : Int32)))]) (rest := []) (lenOf pd_11 rfl) rfl (by show 2 * 0 + _ ≤ _; exact Nat.le_of_eq rfl) (hb hby at_223) (fun _ _ => ⟨rfl, rfl, (by decide : 21 + 0 ≤ _), (by decide : 72 + 0 ≤ _)⟩)
      dsimp only [Pt.U, Pt.locs, Pt.cells, Pt.slots] at X831 l831 y831 z831 st831 hQ831
      obtain rfl : k831 = 21 := y831
      obtain rfl : n831 = 72 := z831
      obtain ⟨rfl, N831q, K831, dom831⟩ := hQ831
      have N831 : Fr n0 L831 := by rw [l831]; exact Fr.app N825 N831q
      have G834 : Go p e below A0 (T831.setTop (mkF m 226 #[.val (.int p0), .val (.int p1), .val (.int p2), .val (.int p3), .val (.int (0 : Int32)), .val (.int (0 : Int32)), .val (.int (0 : Int32)), .val (.int (1 : Int32)), .val (.int (3 : Int32)), .val (.int (2 : Int32)), .val (.int ((p0 &&& (2147483647 : Int32)) % (3 : Int32))), .val (.int ((p1 &&& (2147483647 : Int32)) % (3 : Int32))), .val (.int ((p2 &&& (2147483647 : Int32)) % (2 : Int32))), .val (.ref b714), .val (.ref b789), .val (.int (1 : Int32)), .val (.int (own_b (¬ ((p1 &&& (2147483647 : Int32)) % (3 : Int32)) = ((p0 &&& (2147483647 : Int32)) % (3 : Int32))))), .val (.int (1 : Int32)), .val (.int (0 : Int32)), .unset, .unset, .unset] [(.int (0 : Int32))])) := fun tq kq => G830 tq (st831.trans kq)
      have G835 : Go p e below A0 (T831.setTop (mkF m 234 #[.val (.int p0), .val (.int p1), .val (.int p2), .val (.int p3), .val (.int (0 : Int32)), .val (.int (0 : Int32)), .val (.int (0 : Int32)), .val (.int (1 : Int32)), .val (.int (3 : Int32)), .val (.int (2 : Int32)), .val (.int ((p0 &&& (2147483647 : Int32)) % (3 : Int32))), .val (.int ((p1 &&& (2147483647 : Int32)) % (3 : Int32))), .val (.int ((p2 &&& (2147483647 : Int32)) % (2 : Int32))), .val (.ref b714), .val (.ref b789), .val (.int (1 : Int32)), .val (.int (own_b (¬ ((p1 &&& (2147483647 : Int32)) % (3 : Int32)) = ((p0 &&& (2147483647 : Int32)) % (3 : Int32))))), .val (.int (1 : Int32)), .val (.int (0 : Int32)), .val (.int (0 : Int32)), .unset, .unset] [(.int ((p2 &&& (2147483647 : Int32)) % (2 : Int32))), (.int (1 : Int32)), (.ref b789)])) := fun tq kq => G834 tq (by
        refine XS.istore X831.here hx rfl (hb hby at_226) rfl (l' := #[.val (.int p0), .val (.int p1), .val (.int p2), .val (.int p3), .val (.int (0 : Int32)), .val (.int (0 : Int32)), .val (.int (0 : Int32)), .val (.int (1 : Int32)), .val (.int (3 : Int32)), .val (.int (2 : Int32)), .val (.int ((p0 &&& (2147483647 : Int32)) % (3 : Int32))), .val (.int ((p1 &&& (2147483647 : Int32)) % (3 : Int32))), .val (.int ((p2 &&& (2147483647 : Int32)) % (2 : Int32))), .val (.ref b714), .val (.ref b789), .val (.int (1 : Int32)), .val (.int (own_b (¬ ((p1 &&& (2147483647 : Int32)) % (3 : Int32)) = ((p0 &&& (2147483647 : Int32)) % (3 : Int32))))), .val (.int (1 : Int32)), .val (.int (0 : Int32)), .val (.int (0 : Int32)), .unset, .unset]) rfl ?_
        show Steps p.tables e below (T831.setTop (mkF m 228 #[.val (.int p0), .val (.int p1), .val (.int p2), .val (.int p3), .val (.int (0 : Int32)), .val (.int (0 : Int32)), .val (.int (0 : Int32)), .val (.int (1 : Int32)), .val (.int (3 : Int32)), .val (.int (2 : Int32)), .val (.int ((p0 &&& (2147483647 : Int32)) % (3 : Int32))), .val (.int ((p1 &&& (2147483647 : Int32)) % (3 : Int32))), .val (.int ((p2 &&& (2147483647 : Int32)) % (2 : Int32))), .val (.ref b714), .val (.ref b789), .val (.int (1 : Int32)), .val (.int (own_b (¬ ((p1 &&& (2147483647 : Int32)) % (3 : Int32)) = ((p0 &&& (2147483647 : Int32)) % (3 : Int32))))), .val (.int (1 : Int32)), .val (.int (0 : Int32)), .val (.int (0 : Int32)), .unset, .unset] [])) _
        refine XS.aload X831.here hx rfl (hb hby at_228) rfl rfl ?_
        show Steps p.tables e below (T831.setTop (mkF m 230 #[.val (.int p0), .val (.int p1), .val (.int p2), .val (.int p3), .val (.int (0 : Int32)), .val (.int (0 : Int32)), .val (.int (0 : Int32)), .val (.int (1 : Int32)), .val (.int (3 : Int32)), .val (.int (2 : Int32)), .val (.int ((p0 &&& (2147483647 : Int32)) % (3 : Int32))), .val (.int ((p1 &&& (2147483647 : Int32)) % (3 : Int32))), .val (.int ((p2 &&& (2147483647 : Int32)) % (2 : Int32))), .val (.ref b714), .val (.ref b789), .val (.int (1 : Int32)), .val (.int (own_b (¬ ((p1 &&& (2147483647 : Int32)) % (3 : Int32)) = ((p0 &&& (2147483647 : Int32)) % (3 : Int32))))), .val (.int (1 : Int32)), .val (.int (0 : Int32)), .val (.int (0 : Int32)), .unset, .unset] [(.ref b789)])) _
        refine XS.iload X831.here hx rfl (hb hby at_230) rfl ?_
        show Steps p.tables e below (T831.setTop (mkF m 232 #[.val (.int p0), .val (.int p1), .val (.int p2), .val (.int p3), .val (.int (0 : Int32)), .val (.int (0 : Int32)), .val (.int (0 : Int32)), .val (.int (1 : Int32)), .val (.int (3 : Int32)), .val (.int (2 : Int32)), .val (.int ((p0 &&& (2147483647 : Int32)) % (3 : Int32))), .val (.int ((p1 &&& (2147483647 : Int32)) % (3 : Int32))), .val (.int ((p2 &&& (2147483647 : Int32)) % (2 : Int32))), .val (.ref b714), .val (.ref b789), .val (.int (1 : Int32)), .val (.int (own_b (¬ ((p1 &&& (2147483647 : Int32)) % (3 : Int32)) = ((p0 &&& (2147483647 : Int32)) % (3 : Int32))))), .val (.int (1 : Int32)), .val (.int (0 : Int32)), .val (.int (0 : Int32)), .unset, .unset] [(.int (1 : Int32)), (.ref b789)])) _
        refine XS.iload X831.here hx rfl (hb hby at_232) rfl ?_
        show Steps p.tables e below (T831.setTop (mkF m 234 #[.val (.int p0), .val (.int p1), .val (.int p2), .val (.int p3), .val (.int (0 : Int32)), .val (.int (0 : Int32)), .val (.int (0 : Int32)), .val (.int (1 : Int32)), .val (.int (3 : Int32)), .val (.int (2 : Int32)), .val (.int ((p0 &&& (2147483647 : Int32)) % (3 : Int32))), .val (.int ((p1 &&& (2147483647 : Int32)) % (3 : Int32))), .val (.int ((p2 &&& (2147483647 : Int32)) % (2 : Int32))), .val (.ref b714), .val (.ref b789), .val (.int (1 : Int32)), .val (.int (own_b (¬ ((p1 &&& (2147483647 : Int32)) % (3 : Int32)) = ((p0 &&& (2147483647 : Int32)) % (3 : Int32))))), .val (.int (1 : Int32)), .val (.int (0 : Int32)), .val (.int (0 : Int32)), .unset, .unset] [(.int ((p2 &&& (2147483647 : Int32)) % (2 : Int32))), (.int (1 : Int32)), (.ref b789)])) _
        exact kq)
      have f837 := (Nat.le_trans f832 K831.1)
      have f838 := (f833.keep K831)
      obtain ⟨cq836, kq836, q836a, q836b, q836c⟩ := isOf hZ rfl f838
      obtain ⟨_, _, ⟨T836, L836, k836, n836⟩, -, X836, ⟨Lc836, hQ836, l836, y836, z836⟩, st836⟩ := X831.virtualBack hx (y := (⟨"com/example/ludarc/ludarc/engine/Domains", "isMarked", "(II)Z"⟩ : MethodName)) (z := (⟨"com/example/ludarc/ludarc/engine/Domains", "isMarked", "(II)Z"⟩ : MethodName)) hown (mvT hZ (hw _ (List.mem_of_getElem? (i := 147) rfl))) (mvT hZ (hw _ (List.mem_of_getElem? (i := 148) rfl))) (notFace_of_selects (args := #[]) (mvT hZ (hw _ (List.mem_of_getElem? (i := 150) rfl)))) (mvT hZ (hw _ (List.mem_of_getElem? (i := 150) rfl))) (mvT hZ (hw _ (List.mem_of_getElem? (i := 149) rfl))) (by decide) (backOf (W := 0) (rmI1 l Z a0 hw [] b789 mem_ pos_ siz_ mrk_ m0_ p0_ k0_ m1_ p1_ k1_ (1 : Int32) (own_sz) (own_id) (own_id) (own_up (own_up (own_up (own_up (own_zero) (((p0 &&& (2147483647 : Int32)) % (3 : Int32))).toNatClampNeg (1 : Int32)) (((p1 &&& (2147483647 : Int32)) % (3 : Int32))).toNatClampNeg (1 : Int32)) (((p0 &&& (2147483647 : Int32)) % (3 : Int32))).toNatClampNeg (1 : Int32)) (((p1 &&& (2147483647 : Int32)) % (3 : Int32))).toNatClampNeg (1 : Int32)) (own_id) (own_id) (own_up (own_zero) (((p2 &&& (2147483647 : Int32)) % (2 : Int32))).toNatClampNeg (1 : Int32)) (1 : Int32) ((p2 &&& (2147483647 : Int32)) % (2 : Int32)) T831.heap n0 f837 ord794 dom831 hc_ (own_bt (by simp [own_up]))) hZ (hw _ (List.mem_of_getElem? (i := 151) rfl)) (hw _ (List.mem_of_getElem? (i := 87) rfl)) (by decide) (by decide)) q836a q836c (g := (mkF m 234 #[.val (.int p0), .val (.int p1), .val (.int p2), .val (.int p3), .val (.int (0 : Int32)), .val (.int (0 : Int32)), .val (.int (0 : Int32)), .val (.int (1 : Int32)), .val (.int (3 : Int32)), .val (.int (2 : Int32)), .val (.int ((p0 &&& (2147483647 : Int32)) % (3 : Int32))), .val (.int ((p1 &&& (2147483647 : Int32)) % (3 : Int32))), .val (.int ((p2 &&& (2147483647 : Int32)) % (2 : Int32))), .val (.ref b714), .val (.ref b789), .val (.int (1 : Int32)), .val (.int (own_b (¬ ((p1 &&& (2147483647 : Int32)) % (3 : Int32)) = ((p0 &&& (2147483647 : Int32)) % (3 : Int32))))), .val (.int (1 : Int32)), .val (.int (0 : Int32)), .val (.int (0 : Int32)), .unset, .unset] [(.int ((p2 &&& (2147483647 : Int32)) % (2 : Int32))), (.int (1 : Int32)), (.ref b789)])) rfl (by rw [hml]; rfl) (Steps.refl _) (argsL := [(.int (1 : Int32)), (.int ((p2 &&& (2147483647 : Int32)) % (2 : Int32)))]) (rest := []) (lenOf pd_11 rfl) rfl (by show 2 * 0 + _ ≤ _; exact Nat.le_of_eq rfl) (hb hby at_234) (fun _ _ => ⟨rfl, rfl, (by decide : 21 + 0 ≤ _), (by decide : 72 + 0 ≤ _)⟩)
      dsimp only [Pt.U, Pt.locs, Pt.cells, Pt.slots] at X836 l836 y836 z836 st836 hQ836
      obtain rfl : k836 = 21 := y836
      obtain rfl : n836 = 72 := z836
      obtain ⟨rfl, N836q, e836⟩ := hQ836
      have N836 : Fr n0 L836 := by rw [l836]; exact Fr.app N831 N836q
      have G839 : Go p e below A0 (T836.setTop (mkF m 237 #[.val (.int p0), .val (.int p1), .val (.int p2), .val (.int p3), .val (.int (0 : Int32)), .val (.int (0 : Int32)), .val (.int (0 : Int32)), .val (.int (1 : Int32)), .val (.int (3 : Int32)), .val (.int (2 : Int32)), .val (.int ((p0 &&& (2147483647 : Int32)) % (3 : Int32))), .val (.int ((p1 &&& (2147483647 : Int32)) % (3 : Int32))), .val (.int ((p2 &&& (2147483647 : Int32)) % (2 : Int32))), .val (.ref b714), .val (.ref b789), .val (.int (1 : Int32)), .val (.int (own_b (¬ ((p1 &&& (2147483647 : Int32)) % (3 : Int32)) = ((p0 &&& (2147483647 : Int32)) % (3 : Int32))))), .val (.int (1 : Int32)), .val (.int (0 : Int32)), .val (.int (0 : Int32)), .unset, .unset] [(.int (1 : Int32))])) := fun tq kq => G835 tq (st836.trans kq)
      have G840 : Go p e below A0 (T836.setTop (mkF m 250 #[.val (.int p0), .val (.int p1), .val (.int p2), .val (.int p3), .val (.int (0 : Int32)), .val (.int (0 : Int32)), .val (.int (0 : Int32)), .val (.int (1 : Int32)), .val (.int (3 : Int32)), .val (.int (2 : Int32)), .val (.int ((p0 &&& (2147483647 : Int32)) % (3 : Int32))), .val (.int ((p1 &&& (2147483647 : Int32)) % (3 : Int32))), .val (.int ((p2 &&& (2147483647 : Int32)) % (2 : Int32))), .val (.ref b714), .val (.ref b789), .val (.int (1 : Int32)), .val (.int (own_b (¬ ((p1 &&& (2147483647 : Int32)) % (3 : Int32)) = ((p0 &&& (2147483647 : Int32)) % (3 : Int32))))), .val (.int (1 : Int32)), .val (.int (0 : Int32)), .val (.int (0 : Int32)), .val (.int (1 : Int32)), .val (.int (1 : Int32))] [(.int (own_b (¬ ((p1 &&& (2147483647 : Int32)) % (3 : Int32)) = ((p0 &&& (2147483647 : Int32)) % (3 : Int32)))))])) := fun tq kq => G839 tq (by
        refine XS.istore X836.here hx rfl (hb hby at_237) rfl (l' := #[.val (.int p0), .val (.int p1), .val (.int p2), .val (.int p3), .val (.int (0 : Int32)), .val (.int (0 : Int32)), .val (.int (0 : Int32)), .val (.int (1 : Int32)), .val (.int (3 : Int32)), .val (.int (2 : Int32)), .val (.int ((p0 &&& (2147483647 : Int32)) % (3 : Int32))), .val (.int ((p1 &&& (2147483647 : Int32)) % (3 : Int32))), .val (.int ((p2 &&& (2147483647 : Int32)) % (2 : Int32))), .val (.ref b714), .val (.ref b789), .val (.int (1 : Int32)), .val (.int (own_b (¬ ((p1 &&& (2147483647 : Int32)) % (3 : Int32)) = ((p0 &&& (2147483647 : Int32)) % (3 : Int32))))), .val (.int (1 : Int32)), .val (.int (0 : Int32)), .val (.int (0 : Int32)), .val (.int (1 : Int32)), .unset]) rfl ?_
        show Steps p.tables e below (T836.setTop (mkF m 239 #[.val (.int p0), .val (.int p1), .val (.int p2), .val (.int p3), .val (.int (0 : Int32)), .val (.int (0 : Int32)), .val (.int (0 : Int32)), .val (.int (1 : Int32)), .val (.int (3 : Int32)), .val (.int (2 : Int32)), .val (.int ((p0 &&& (2147483647 : Int32)) % (3 : Int32))), .val (.int ((p1 &&& (2147483647 : Int32)) % (3 : Int32))), .val (.int ((p2 &&& (2147483647 : Int32)) % (2 : Int32))), .val (.ref b714), .val (.ref b789), .val (.int (1 : Int32)), .val (.int (own_b (¬ ((p1 &&& (2147483647 : Int32)) % (3 : Int32)) = ((p0 &&& (2147483647 : Int32)) % (3 : Int32))))), .val (.int (1 : Int32)), .val (.int (0 : Int32)), .val (.int (0 : Int32)), .val (.int (1 : Int32)), .unset] [])) _
        refine XS.iload X836.here hx rfl (hb hby at_239) rfl ?_
        show Steps p.tables e below (T836.setTop (mkF m 241 #[.val (.int p0), .val (.int p1), .val (.int p2), .val (.int p3), .val (.int (0 : Int32)), .val (.int (0 : Int32)), .val (.int (0 : Int32)), .val (.int (1 : Int32)), .val (.int (3 : Int32)), .val (.int (2 : Int32)), .val (.int ((p0 &&& (2147483647 : Int32)) % (3 : Int32))), .val (.int ((p1 &&& (2147483647 : Int32)) % (3 : Int32))), .val (.int ((p2 &&& (2147483647 : Int32)) % (2 : Int32))), .val (.ref b714), .val (.ref b789), .val (.int (1 : Int32)), .val (.int (own_b (¬ ((p1 &&& (2147483647 : Int32)) % (3 : Int32)) = ((p0 &&& (2147483647 : Int32)) % (3 : Int32))))), .val (.int (1 : Int32)), .val (.int (0 : Int32)), .val (.int (0 : Int32)), .val (.int (1 : Int32)), .unset] [(.int (1 : Int32))])) _
        refine XS.istore X836.here hx rfl (hb hby at_241) rfl (l' := #[.val (.int p0), .val (.int p1), .val (.int p2), .val (.int p3), .val (.int (0 : Int32)), .val (.int (0 : Int32)), .val (.int (0 : Int32)), .val (.int (1 : Int32)), .val (.int (3 : Int32)), .val (.int (2 : Int32)), .val (.int ((p0 &&& (2147483647 : Int32)) % (3 : Int32))), .val (.int ((p1 &&& (2147483647 : Int32)) % (3 : Int32))), .val (.int ((p2 &&& (2147483647 : Int32)) % (2 : Int32))), .val (.ref b714), .val (.ref b789), .val (.int (1 : Int32)), .val (.int (own_b (¬ ((p1 &&& (2147483647 : Int32)) % (3 : Int32)) = ((p0 &&& (2147483647 : Int32)) % (3 : Int32))))), .val (.int (1 : Int32)), .val (.int (0 : Int32)), .val (.int (0 : Int32)), .val (.int (1 : Int32)), .val (.int (1 : Int32))]) rfl ?_
        show Steps p.tables e below (T836.setTop (mkF m 243 #[.val (.int p0), .val (.int p1), .val (.int p2), .val (.int p3), .val (.int (0 : Int32)), .val (.int (0 : Int32)), .val (.int (0 : Int32)), .val (.int (1 : Int32)), .val (.int (3 : Int32)), .val (.int (2 : Int32)), .val (.int ((p0 &&& (2147483647 : Int32)) % (3 : Int32))), .val (.int ((p1 &&& (2147483647 : Int32)) % (3 : Int32))), .val (.int ((p2 &&& (2147483647 : Int32)) % (2 : Int32))), .val (.ref b714), .val (.ref b789), .val (.int (1 : Int32)), .val (.int (own_b (¬ ((p1 &&& (2147483647 : Int32)) % (3 : Int32)) = ((p0 &&& (2147483647 : Int32)) % (3 : Int32))))), .val (.int (1 : Int32)), .val (.int (0 : Int32)), .val (.int (0 : Int32)), .val (.int (1 : Int32)), .val (.int (1 : Int32))] [])) _
        refine XS.iload X836.here hx rfl (hb hby at_243) rfl ?_
        show Steps p.tables e below (T836.setTop (mkF m 245 #[.val (.int p0), .val (.int p1), .val (.int p2), .val (.int p3), .val (.int (0 : Int32)), .val (.int (0 : Int32)), .val (.int (0 : Int32)), .val (.int (1 : Int32)), .val (.int (3 : Int32)), .val (.int (2 : Int32)), .val (.int ((p0 &&& (2147483647 : Int32)) % (3 : Int32))), .val (.int ((p1 &&& (2147483647 : Int32)) % (3 : Int32))), .val (.int ((p2 &&& (2147483647 : Int32)) % (2 : Int32))), .val (.ref b714), .val (.ref b789), .val (.int (1 : Int32)), .val (.int (own_b (¬ ((p1 &&& (2147483647 : Int32)) % (3 : Int32)) = ((p0 &&& (2147483647 : Int32)) % (3 : Int32))))), .val (.int (1 : Int32)), .val (.int (0 : Int32)), .val (.int (0 : Int32)), .val (.int (1 : Int32)), .val (.int (1 : Int32))] [(.int (1 : Int32))])) _
        refine XS.ifNo X836.here hx rfl (hb hby at_245) rfl (by decide) ?_
        show Steps p.tables e below (T836.setTop (mkF m 248 #[.val (.int p0), .val (.int p1), .val (.int p2), .val (.int p3), .val (.int (0 : Int32)), .val (.int (0 : Int32)), .val (.int (0 : Int32)), .val (.int (1 : Int32)), .val (.int (3 : Int32)), .val (.int (2 : Int32)), .val (.int ((p0 &&& (2147483647 : Int32)) % (3 : Int32))), .val (.int ((p1 &&& (2147483647 : Int32)) % (3 : Int32))), .val (.int ((p2 &&& (2147483647 : Int32)) % (2 : Int32))), .val (.ref b714), .val (.ref b789), .val (.int (1 : Int32)), .val (.int (own_b (¬ ((p1 &&& (2147483647 : Int32)) % (3 : Int32)) = ((p0 &&& (2147483647 : Int32)) % (3 : Int32))))), .val (.int (1 : Int32)), .val (.int (0 : Int32)), .val (.int (0 : Int32)), .val (.int (1 : Int32)), .val (.int (1 : Int32))] [])) _
        refine XS.iload X836.here hx rfl (hb hby at_248) rfl ?_
        show Steps p.tables e below (T836.setTop (mkF m 250 #[.val (.int p0), .val (.int p1), .val (.int p2), .val (.int p3), .val (.int (0 : Int32)), .val (.int (0 : Int32)), .val (.int (0 : Int32)), .val (.int (1 : Int32)), .val (.int (3 : Int32)), .val (.int (2 : Int32)), .val (.int ((p0 &&& (2147483647 : Int32)) % (3 : Int32))), .val (.int ((p1 &&& (2147483647 : Int32)) % (3 : Int32))), .val (.int ((p2 &&& (2147483647 : Int32)) % (2 : Int32))), .val (.ref b714), .val (.ref b789), .val (.int (1 : Int32)), .val (.int (own_b (¬ ((p1 &&& (2147483647 : Int32)) % (3 : Int32)) = ((p0 &&& (2147483647 : Int32)) % (3 : Int32))))), .val (.int (1 : Int32)), .val (.int (0 : Int32)), .val (.int (0 : Int32)), .val (.int (1 : Int32)), .val (.int (1 : Int32))] [(.int (own_b (¬ ((p1 &&& (2147483647 : Int32)) % (3 : Int32)) = ((p0 &&& (2147483647 : Int32)) % (3 : Int32)))))])) _
        exact kq)
      obtain ⟨ne_, hG841, G841⟩ : ∃ (ne_ : Int32), (ne_ = own_b (¬ ((p1 &&& (2147483647 : Int32)) % (3 : Int32)) = ((p0 &&& (2147483647 : Int32)) % (3 : Int32)))) ∧ Go p e below A0 (T836.setTop (mkF m 262 #[.val (.int p0), .val (.int p1), .val (.int p2), .val (.int p3), .val (.int (0 : Int32)), .val (.int (0 : Int32)), .val (.int (0 : Int32)), .val (.int (1 : Int32)), .val (.int (3 : Int32)), .val (.int (2 : Int32)), .val (.int ((p0 &&& (2147483647 : Int32)) % (3 : Int32))), .val (.int ((p1 &&& (2147483647 : Int32)) % (3 : Int32))), .val (.int ((p2 &&& (2147483647 : Int32)) % (2 : Int32))), .val (.ref b714), .val (.ref b789), .val (.int (1 : Int32)), .val (.int (own_b (¬ ((p1 &&& (2147483647 : Int32)) % (3 : Int32)) = ((p0 &&& (2147483647 : Int32)) % (3 : Int32))))), .val (.int (1 : Int32)), .val (.int (0 : Int32)), .val (.int (0 : Int32)), .val (.int (1 : Int32)), .val (.int (1 : Int32))] [(.int ne_), (.int (own_b (¬ ((p1 &&& (2147483647 : Int32)) % (3 : Int32)) = ((p0 &&& (2147483647 : Int32)) % (3 : Int32)))))])) := by
        have G842 : Go p e below A0 (T836.setTop (mkF m 254 #[.val (.int p0), .val (.int p1), .val (.int p2), .val (.int p3), .val (.int (0 : Int32)), .val (.int (0 : Int32)), .val (.int (0 : Int32)), .val (.int (1 : Int32)), .val (.int (3 : Int32)), .val (.int (2 : Int32)), .val (.int ((p0 &&& (2147483647 : Int32)) % (3 : Int32))), .val (.int ((p1 &&& (2147483647 : Int32)) % (3 : Int32))), .val (.int ((p2 &&& (2147483647 : Int32)) % (2 : Int32))), .val (.ref b714), .val (.ref b789), .val (.int (1 : Int32)), .val (.int (own_b (¬ ((p1 &&& (2147483647 : Int32)) % (3 : Int32)) = ((p0 &&& (2147483647 : Int32)) % (3 : Int32))))), .val (.int (1 : Int32)), .val (.int (0 : Int32)), .val (.int (0 : Int32)), .val (.int (1 : Int32)), .val (.int (1 : Int32))] [(.int ((p0 &&& (2147483647 : Int32)) % (3 : Int32))), (.int ((p1 &&& (2147483647 : Int32)) % (3 : Int32))), (.int (own_b (¬ ((p1 &&& (2147483647 : Int32)) % (3 : Int32)) = ((p0 &&& (2147483647 : Int32)) % (3 : Int32)))))])) := fun tq kq => G840 tq (by
          refine XS.iload X836.here hx rfl (hb hby at_250) rfl ?_
          show Steps p.tables e below (T836.setTop (mkF m 252 #[.val (.int p0), .val (.int p1), .val (.int p2), .val (.int p3), .val (.int (0 : Int32)), .val (.int (0 : Int32)), .val (.int (0 : Int32)), .val (.int (1 : Int32)), .val (.int (3 : Int32)), .val (.int (2 : Int32)), .val (.int ((p0 &&& (2147483647 : Int32)) % (3 : Int32))), .val (.int ((p1 &&& (2147483647 : Int32)) % (3 : Int32))), .val (.int ((p2 &&& (2147483647 : Int32)) % (2 : Int32))), .val (.ref b714), .val (.ref b789), .val (.int (1 : Int32)), .val (.int (own_b (¬ ((p1 &&& (2147483647 : Int32)) % (3 : Int32)) = ((p0 &&& (2147483647 : Int32)) % (3 : Int32))))), .val (.int (1 : Int32)), .val (.int (0 : Int32)), .val (.int (0 : Int32)), .val (.int (1 : Int32)), .val (.int (1 : Int32))] [(.int ((p1 &&& (2147483647 : Int32)) % (3 : Int32))), (.int (own_b (¬ ((p1 &&& (2147483647 : Int32)) % (3 : Int32)) = ((p0 &&& (2147483647 : Int32)) % (3 : Int32)))))])) _
          refine XS.iload X836.here hx rfl (hb hby at_252) rfl ?_
          show Steps p.tables e below (T836.setTop (mkF m 254 #[.val (.int p0), .val (.int p1), .val (.int p2), .val (.int p3), .val (.int (0 : Int32)), .val (.int (0 : Int32)), .val (.int (0 : Int32)), .val (.int (1 : Int32)), .val (.int (3 : Int32)), .val (.int (2 : Int32)), .val (.int ((p0 &&& (2147483647 : Int32)) % (3 : Int32))), .val (.int ((p1 &&& (2147483647 : Int32)) % (3 : Int32))), .val (.int ((p2 &&& (2147483647 : Int32)) % (2 : Int32))), .val (.ref b714), .val (.ref b789), .val (.int (1 : Int32)), .val (.int (own_b (¬ ((p1 &&& (2147483647 : Int32)) % (3 : Int32)) = ((p0 &&& (2147483647 : Int32)) % (3 : Int32))))), .val (.int (1 : Int32)), .val (.int (0 : Int32)), .val (.int (0 : Int32)), .val (.int (1 : Int32)), .val (.int (1 : Int32))] [(.int ((p0 &&& (2147483647 : Int32)) % (3 : Int32))), (.int ((p1 &&& (2147483647 : Int32)) % (3 : Int32))), (.int (own_b (¬ ((p1 &&& (2147483647 : Int32)) % (3 : Int32)) = ((p0 &&& (2147483647 : Int32)) % (3 : Int32)))))])) _
          exact kq)
        by_cases hc843 : ((p1 &&& (2147483647 : Int32)) % (3 : Int32)) = ((p0 &&& (2147483647 : Int32)) % (3 : Int32))
        · have G844 : Go p e below A0 (T836.setTop (mkF m 262 #[.val (.int p0), .val (.int p1), .val (.int p2), .val (.int p3), .val (.int (0 : Int32)), .val (.int (0 : Int32)), .val (.int (0 : Int32)), .val (.int (1 : Int32)), .val (.int (3 : Int32)), .val (.int (2 : Int32)), .val (.int ((p0 &&& (2147483647 : Int32)) % (3 : Int32))), .val (.int ((p1 &&& (2147483647 : Int32)) % (3 : Int32))), .val (.int ((p2 &&& (2147483647 : Int32)) % (2 : Int32))), .val (.ref b714), .val (.ref b789), .val (.int (1 : Int32)), .val (.int (own_b (¬ ((p1 &&& (2147483647 : Int32)) % (3 : Int32)) = ((p0 &&& (2147483647 : Int32)) % (3 : Int32))))), .val (.int (1 : Int32)), .val (.int (0 : Int32)), .val (.int (0 : Int32)), .val (.int (1 : Int32)), .val (.int (1 : Int32))] [(.int (0 : Int32)), (.int (own_b (¬ ((p1 &&& (2147483647 : Int32)) % (3 : Int32)) = ((p0 &&& (2147483647 : Int32)) % (3 : Int32)))))])) := fun tq kq => G842 tq (by
            refine XS.icmpYes X836.here hx rfl (pc0 := 254) (pc' := 261) rfl (hb hby at_254) rfl (teq hc843).1 (by decide) (by decide) ?_
            show Steps p.tables e below (T836.setTop (mkF m 261 #[.val (.int p0), .val (.int p1), .val (.int p2), .val (.int p3), .val (.int (0 : Int32)), .val (.int (0 : Int32)), .val (.int (0 : Int32)), .val (.int (1 : Int32)), .val (.int (3 : Int32)), .val (.int (2 : Int32)), .val (.int ((p0 &&& (2147483647 : Int32)) % (3 : Int32))), .val (.int ((p1 &&& (2147483647 : Int32)) % (3 : Int32))), .val (.int ((p2 &&& (2147483647 : Int32)) % (2 : Int32))), .val (.ref b714), .val (.ref b789), .val (.int (1 : Int32)), .val (.int (own_b (¬ ((p1 &&& (2147483647 : Int32)) % (3 : Int32)) = ((p0 &&& (2147483647 : Int32)) % (3 : Int32))))), .val (.int (1 : Int32)), .val (.int (0 : Int32)), .val (.int (0 : Int32)), .val (.int (1 : Int32)), .val (.int (1 : Int32))] [(.int (own_b (¬ ((p1 &&& (2147483647 : Int32)) % (3 : Int32)) = ((p0 &&& (2147483647 : Int32)) % (3 : Int32)))))])) _
            refine XS.iconst X836.here hx rfl (hb hby at_261) ?_
            show Steps p.tables e below (T836.setTop (mkF m 262 #[.val (.int p0), .val (.int p1), .val (.int p2), .val (.int p3), .val (.int (0 : Int32)), .val (.int (0 : Int32)), .val (.int (0 : Int32)), .val (.int (1 : Int32)), .val (.int (3 : Int32)), .val (.int (2 : Int32)), .val (.int ((p0 &&& (2147483647 : Int32)) % (3 : Int32))), .val (.int ((p1 &&& (2147483647 : Int32)) % (3 : Int32))), .val (.int ((p2 &&& (2147483647 : Int32)) % (2 : Int32))), .val (.ref b714), .val (.ref b789), .val (.int (1 : Int32)), .val (.int (own_b (¬ ((p1 &&& (2147483647 : Int32)) % (3 : Int32)) = ((p0 &&& (2147483647 : Int32)) % (3 : Int32))))), .val (.int (1 : Int32)), .val (.int (0 : Int32)), .val (.int (0 : Int32)), .val (.int (1 : Int32)), .val (.int (1 : Int32))] [(.int (0 : Int32)), (.int (own_b (¬ ((p1 &&& (2147483647 : Int32)) % (3 : Int32)) = ((p0 &&& (2147483647 : Int32)) % (3 : Int32)))))])) _
            exact kq)
          exact ⟨(0 : Int32), (by simp only [own_b, hc843, not_true_eq_false, not_false_eq_true, if_true, if_false, or_true, true_or, or_false, false_or, and_true, true_and, and_false, false_and, and_self, or_self]), G844⟩
        · have G845 : Go p e below A0 (T836.setTop (mkF m 262 #[.val (.int p0), .val (.int p1), .val (.int p2), .val (.int p3), .val (.int (0 : Int32)), .val (.int (0 : Int32)), .val (.int (0 : Int32)), .val (.int (1 : Int32)), .val (.int (3 : Int32)), .val (.int (2 : Int32)), .val (.int ((p0 &&& (2147483647 : Int32)) % (3 : Int32))), .val (.int ((p1 &&& (2147483647 : Int32)) % (3 : Int32))), .val (.int ((p2 &&& (2147483647 : Int32)) % (2 : Int32))), .val (.ref b714), .val (.ref b789), .val (.int (1 : Int32)), .val (.int (own_b (¬ ((p1 &&& (2147483647 : Int32)) % (3 : Int32)) = ((p0 &&& (2147483647 : Int32)) % (3 : Int32))))), .val (.int (1 : Int32)), .val (.int (0 : Int32)), .val (.int (0 : Int32)), .val (.int (1 : Int32)), .val (.int (1 : Int32))] [(.int (1 : Int32)), (.int (own_b (¬ ((p1 &&& (2147483647 : Int32)) % (3 : Int32)) = ((p0 &&& (2147483647 : Int32)) % (3 : Int32)))))])) := fun tq kq => G842 tq (by
            refine XS.icmpNo X836.here hx rfl (hb hby at_254) rfl (feq hc843).1 ?_
            show Steps p.tables e below (T836.setTop (mkF m 257 #[.val (.int p0), .val (.int p1), .val (.int p2), .val (.int p3), .val (.int (0 : Int32)), .val (.int (0 : Int32)), .val (.int (0 : Int32)), .val (.int (1 : Int32)), .val (.int (3 : Int32)), .val (.int (2 : Int32)), .val (.int ((p0 &&& (2147483647 : Int32)) % (3 : Int32))), .val (.int ((p1 &&& (2147483647 : Int32)) % (3 : Int32))), .val (.int ((p2 &&& (2147483647 : Int32)) % (2 : Int32))), .val (.ref b714), .val (.ref b789), .val (.int (1 : Int32)), .val (.int (own_b (¬ ((p1 &&& (2147483647 : Int32)) % (3 : Int32)) = ((p0 &&& (2147483647 : Int32)) % (3 : Int32))))), .val (.int (1 : Int32)), .val (.int (0 : Int32)), .val (.int (0 : Int32)), .val (.int (1 : Int32)), .val (.int (1 : Int32))] [(.int (own_b (¬ ((p1 &&& (2147483647 : Int32)) % (3 : Int32)) = ((p0 &&& (2147483647 : Int32)) % (3 : Int32)))))])) _
            refine XS.iconst X836.here hx rfl (hb hby at_257) ?_
            show Steps p.tables e below (T836.setTop (mkF m 258 #[.val (.int p0), .val (.int p1), .val (.int p2), .val (.int p3), .val (.int (0 : Int32)), .val (.int (0 : Int32)), .val (.int (0 : Int32)), .val (.int (1 : Int32)), .val (.int (3 : Int32)), .val (.int (2 : Int32)), .val (.int ((p0 &&& (2147483647 : Int32)) % (3 : Int32))), .val (.int ((p1 &&& (2147483647 : Int32)) % (3 : Int32))), .val (.int ((p2 &&& (2147483647 : Int32)) % (2 : Int32))), .val (.ref b714), .val (.ref b789), .val (.int (1 : Int32)), .val (.int (own_b (¬ ((p1 &&& (2147483647 : Int32)) % (3 : Int32)) = ((p0 &&& (2147483647 : Int32)) % (3 : Int32))))), .val (.int (1 : Int32)), .val (.int (0 : Int32)), .val (.int (0 : Int32)), .val (.int (1 : Int32)), .val (.int (1 : Int32))] [(.int (1 : Int32)), (.int (own_b (¬ ((p1 &&& (2147483647 : Int32)) % (3 : Int32)) = ((p0 &&& (2147483647 : Int32)) % (3 : Int32)))))])) _
            refine XS.goto X836.here hx rfl (pc0 := 258) (pc' := 262) rfl (hb hby at_258) (by decide) (by decide) ?_
            show Steps p.tables e below (T836.setTop (mkF m 262 #[.val (.int p0), .val (.int p1), .val (.int p2), .val (.int p3), .val (.int (0 : Int32)), .val (.int (0 : Int32)), .val (.int (0 : Int32)), .val (.int (1 : Int32)), .val (.int (3 : Int32)), .val (.int (2 : Int32)), .val (.int ((p0 &&& (2147483647 : Int32)) % (3 : Int32))), .val (.int ((p1 &&& (2147483647 : Int32)) % (3 : Int32))), .val (.int ((p2 &&& (2147483647 : Int32)) % (2 : Int32))), .val (.ref b714), .val (.ref b789), .val (.int (1 : Int32)), .val (.int (own_b (¬ ((p1 &&& (2147483647 : Int32)) % (3 : Int32)) = ((p0 &&& (2147483647 : Int32)) % (3 : Int32))))), .val (.int (1 : Int32)), .val (.int (0 : Int32)), .val (.int (0 : Int32)), .val (.int (1 : Int32)), .val (.int (1 : Int32))] [(.int (1 : Int32)), (.int (own_b (¬ ((p1 &&& (2147483647 : Int32)) % (3 : Int32)) = ((p0 &&& (2147483647 : Int32)) % (3 : Int32)))))])) _
            exact kq)
          exact ⟨(1 : Int32), (by simp only [own_b, hc843, not_true_eq_false, not_false_eq_true, if_true, if_false, or_true, true_or, or_false, false_or, and_true, true_and, and_false, false_and, and_self, or_self]), G845⟩
      subst hG841
      have G846 : Go p e below A0 (T836.setTop (mkF m 354 #[.val (.int p0), .val (.int p1), .val (.int p2), .val (.int p3), .val (.int (0 : Int32)), .val (.int (0 : Int32)), .val (.int (0 : Int32)), .val (.int (1 : Int32)), .val (.int (3 : Int32)), .val (.int (2 : Int32)), .val (.int ((p0 &&& (2147483647 : Int32)) % (3 : Int32))), .val (.int ((p1 &&& (2147483647 : Int32)) % (3 : Int32))), .val (.int ((p2 &&& (2147483647 : Int32)) % (2 : Int32))), .val (.ref b714), .val (.ref b789), .val (.int (1 : Int32)), .val (.int (own_b (¬ ((p1 &&& (2147483647 : Int32)) % (3 : Int32)) = ((p0 &&& (2147483647 : Int32)) % (3 : Int32))))), .val (.int (1 : Int32)), .val (.int (0 : Int32)), .val (.int (0 : Int32)), .val (.int (1 : Int32)), .val (.int (1 : Int32))] [(.int (1 : Int32))])) := fun tq kq => G841 tq (by
        refine XS.icmpNo X836.here hx rfl (hb hby at_262) rfl (teq (rfl : (own_b (¬ ((p1 &&& (2147483647 : Int32)) % (3 : Int32)) = ((p0 &&& (2147483647 : Int32)) % (3 : Int32)))) = (own_b (¬ ((p1 &&& (2147483647 : Int32)) % (3 : Int32)) = ((p0 &&& (2147483647 : Int32)) % (3 : Int32)))))).2 ?_
        show Steps p.tables e below (T836.setTop (mkF m 265 #[.val (.int p0), .val (.int p1), .val (.int p2), .val (.int p3), .val (.int (0 : Int32)), .val (.int (0 : Int32)), .val (.int (0 : Int32)), .val (.int (1 : Int32)), .val (.int (3 : Int32)), .val (.int (2 : Int32)), .val (.int ((p0 &&& (2147483647 : Int32)) % (3 : Int32))), .val (.int ((p1 &&& (2147483647 : Int32)) % (3 : Int32))), .val (.int ((p2 &&& (2147483647 : Int32)) % (2 : Int32))), .val (.ref b714), .val (.ref b789), .val (.int (1 : Int32)), .val (.int (own_b (¬ ((p1 &&& (2147483647 : Int32)) % (3 : Int32)) = ((p0 &&& (2147483647 : Int32)) % (3 : Int32))))), .val (.int (1 : Int32)), .val (.int (0 : Int32)), .val (.int (0 : Int32)), .val (.int (1 : Int32)), .val (.int (1 : Int32))] [])) _
        refine XS.iconst X836.here hx rfl (hb hby at_265) ?_
        show Steps p.tables e below (T836.setTop (mkF m 266 #[.val (.int p0), .val (.int p1), .val (.int p2), .val (.int p3), .val (.int (0 : Int32)), .val (.int (0 : Int32)), .val (.int (0 : Int32)), .val (.int (1 : Int32)), .val (.int (3 : Int32)), .val (.int (2 : Int32)), .val (.int ((p0 &&& (2147483647 : Int32)) % (3 : Int32))), .val (.int ((p1 &&& (2147483647 : Int32)) % (3 : Int32))), .val (.int ((p2 &&& (2147483647 : Int32)) % (2 : Int32))), .val (.ref b714), .val (.ref b789), .val (.int (1 : Int32)), .val (.int (own_b (¬ ((p1 &&& (2147483647 : Int32)) % (3 : Int32)) = ((p0 &&& (2147483647 : Int32)) % (3 : Int32))))), .val (.int (1 : Int32)), .val (.int (0 : Int32)), .val (.int (0 : Int32)), .val (.int (1 : Int32)), .val (.int (1 : Int32))] [(.int (1 : Int32))])) _
        refine XS.goto X836.here hx rfl (pc0 := 266) (pc' := 270) rfl (hb hby at_266) (by decide) (by decide) ?_
        show Steps p.tables e below (T836.setTop (mkF m 270 #[.val (.int p0), .val (.int p1), .val (.int p2), .val (.int p3), .val (.int (0 : Int32)), .val (.int (0 : Int32)), .val (.int (0 : Int32)), .val (.int (1 : Int32)), .val (.int (3 : Int32)), .val (.int (2 : Int32)), .val (.int ((p0 &&& (2147483647 : Int32)) % (3 : Int32))), .val (.int ((p1 &&& (2147483647 : Int32)) % (3 : Int32))), .val (.int ((p2 &&& (2147483647 : Int32)) % (2 : Int32))), .val (.ref b714), .val (.ref b789), .val (.int (1 : Int32)), .val (.int (own_b (¬ ((p1 &&& (2147483647 : Int32)) % (3 : Int32)) = ((p0 &&& (2147483647 : Int32)) % (3 : Int32))))), .val (.int (1 : Int32)), .val (.int (0 : Int32)), .val (.int (0 : Int32)), .val (.int (1 : Int32)), .val (.int (1 : Int32))] [(.int (1 : Int32))])) _
        refine XS.istore X836.here hx rfl (hb hby at_270) rfl (l' := #[.val (.int p0), .val (.int p1), .val (.int p2), .val (.int p3), .val (.int (0 : Int32)), .val (.int (0 : Int32)), .val (.int (0 : Int32)), .val (.int (1 : Int32)), .val (.int (3 : Int32)), .val (.int (2 : Int32)), .val (.int ((p0 &&& (2147483647 : Int32)) % (3 : Int32))), .val (.int ((p1 &&& (2147483647 : Int32)) % (3 : Int32))), .val (.int ((p2 &&& (2147483647 : Int32)) % (2 : Int32))), .val (.ref b714), .val (.ref b789), .val (.int (1 : Int32)), .val (.int (own_b (¬ ((p1 &&& (2147483647 : Int32)) % (3 : Int32)) = ((p0 &&& (2147483647 : Int32)) % (3 : Int32))))), .val (.int (1 : Int32)), .val (.int (0 : Int32)), .val (.int (0 : Int32)), .val (.int (1 : Int32)), .val (.int (1 : Int32))]) rfl ?_
        show Steps p.tables e below (T836.setTop (mkF m 272 #[.val (.int p0), .val (.int p1), .val (.int p2), .val (.int p3), .val (.int (0 : Int32)), .val (.int (0 : Int32)), .val (.int (0 : Int32)), .val (.int (1 : Int32)), .val (.int (3 : Int32)), .val (.int (2 : Int32)), .val (.int ((p0 &&& (2147483647 : Int32)) % (3 : Int32))), .val (.int ((p1 &&& (2147483647 : Int32)) % (3 : Int32))), .val (.int ((p2 &&& (2147483647 : Int32)) % (2 : Int32))), .val (.ref b714), .val (.ref b789), .val (.int (1 : Int32)), .val (.int (own_b (¬ ((p1 &&& (2147483647 : Int32)) % (3 : Int32)) = ((p0 &&& (2147483647 : Int32)) % (3 : Int32))))), .val (.int (1 : Int32)), .val (.int (0 : Int32)), .val (.int (0 : Int32)), .val (.int (1 : Int32)), .val (.int (1 : Int32))] [])) _
        refine XS.iload X836.here hx rfl (hb hby at_272) rfl ?_
        show Steps p.tables e below (T836.setTop (mkF m 274 #[.val (.int p0), .val (.int p1), .val (.int p2), .val (.int p3), .val (.int (0 : Int32)), .val (.int (0 : Int32)), .val (.int (0 : Int32)), .val (.int (1 : Int32)), .val (.int (3 : Int32)), .val (.int (2 : Int32)), .val (.int ((p0 &&& (2147483647 : Int32)) % (3 : Int32))), .val (.int ((p1 &&& (2147483647 : Int32)) % (3 : Int32))), .val (.int ((p2 &&& (2147483647 : Int32)) % (2 : Int32))), .val (.ref b714), .val (.ref b789), .val (.int (1 : Int32)), .val (.int (own_b (¬ ((p1 &&& (2147483647 : Int32)) % (3 : Int32)) = ((p0 &&& (2147483647 : Int32)) % (3 : Int32))))), .val (.int (1 : Int32)), .val (.int (0 : Int32)), .val (.int (0 : Int32)), .val (.int (1 : Int32)), .val (.int (1 : Int32))] [(.int (1 : Int32))])) _
        refine XS.ifNo X836.here hx rfl (hb hby at_274) rfl (by decide) ?_
        show Steps p.tables e below (T836.setTop (mkF m 277 #[.val (.int p0), .val (.int p1), .val (.int p2), .val (.int p3), .val (.int (0 : Int32)), .val (.int (0 : Int32)), .val (.int (0 : Int32)), .val (.int (1 : Int32)), .val (.int (3 : Int32)), .val (.int (2 : Int32)), .val (.int ((p0 &&& (2147483647 : Int32)) % (3 : Int32))), .val (.int ((p1 &&& (2147483647 : Int32)) % (3 : Int32))), .val (.int ((p2 &&& (2147483647 : Int32)) % (2 : Int32))), .val (.ref b714), .val (.ref b789), .val (.int (1 : Int32)), .val (.int (own_b (¬ ((p1 &&& (2147483647 : Int32)) % (3 : Int32)) = ((p0 &&& (2147483647 : Int32)) % (3 : Int32))))), .val (.int (1 : Int32)), .val (.int (0 : Int32)), .val (.int (0 : Int32)), .val (.int (1 : Int32)), .val (.int (1 : Int32))] [])) _
        refine XS.iload X836.here hx rfl (hb hby at_277) rfl ?_
        show Steps p.tables e below (T836.setTop (mkF m 279 #[.val (.int p0), .val (.int p1), .val (.int p2), .val (.int p3), .val (.int (0 : Int32)), .val (.int (0 : Int32)), .val (.int (0 : Int32)), .val (.int (1 : Int32)), .val (.int (3 : Int32)), .val (.int (2 : Int32)), .val (.int ((p0 &&& (2147483647 : Int32)) % (3 : Int32))), .val (.int ((p1 &&& (2147483647 : Int32)) % (3 : Int32))), .val (.int ((p2 &&& (2147483647 : Int32)) % (2 : Int32))), .val (.ref b714), .val (.ref b789), .val (.int (1 : Int32)), .val (.int (own_b (¬ ((p1 &&& (2147483647 : Int32)) % (3 : Int32)) = ((p0 &&& (2147483647 : Int32)) % (3 : Int32))))), .val (.int (1 : Int32)), .val (.int (0 : Int32)), .val (.int (0 : Int32)), .val (.int (1 : Int32)), .val (.int (1 : Int32))] [(.int (1 : Int32))])) _
        refine XS.ifNo X836.here hx rfl (hb hby at_279) rfl (by decide) ?_
        show Steps p.tables e below (T836.setTop (mkF m 282 #[.val (.int p0), .val (.int p1), .val (.int p2), .val (.int p3), .val (.int (0 : Int32)), .val (.int (0 : Int32)), .val (.int (0 : Int32)), .val (.int (1 : Int32)), .val (.int (3 : Int32)), .val (.int (2 : Int32)), .val (.int ((p0 &&& (2147483647 : Int32)) % (3 : Int32))), .val (.int ((p1 &&& (2147483647 : Int32)) % (3 : Int32))), .val (.int ((p2 &&& (2147483647 : Int32)) % (2 : Int32))), .val (.ref b714), .val (.ref b789), .val (.int (1 : Int32)), .val (.int (own_b (¬ ((p1 &&& (2147483647 : Int32)) % (3 : Int32)) = ((p0 &&& (2147483647 : Int32)) % (3 : Int32))))), .val (.int (1 : Int32)), .val (.int (0 : Int32)), .val (.int (0 : Int32)), .val (.int (1 : Int32)), .val (.int (1 : Int32))] [])) _
        refine XS.iconst X836.here hx rfl (hb hby at_282) ?_
        show Steps p.tables e below (T836.setTop (mkF m 283 #[.val (.int p0), .val (.int p1), .val (.int p2), .val (.int p3), .val (.int (0 : Int32)), .val (.int (0 : Int32)), .val (.int (0 : Int32)), .val (.int (1 : Int32)), .val (.int (3 : Int32)), .val (.int (2 : Int32)), .val (.int ((p0 &&& (2147483647 : Int32)) % (3 : Int32))), .val (.int ((p1 &&& (2147483647 : Int32)) % (3 : Int32))), .val (.int ((p2 &&& (2147483647 : Int32)) % (2 : Int32))), .val (.ref b714), .val (.ref b789), .val (.int (1 : Int32)), .val (.int (own_b (¬ ((p1 &&& (2147483647 : Int32)) % (3 : Int32)) = ((p0 &&& (2147483647 : Int32)) % (3 : Int32))))), .val (.int (1 : Int32)), .val (.int (0 : Int32)), .val (.int (0 : Int32)), .val (.int (1 : Int32)), .val (.int (1 : Int32))] [(.int (1 : Int32))])) _
        refine XS.goto X836.here hx rfl (pc0 := 283) (pc' := 287) rfl (hb hby at_283) (by decide) (by decide) ?_
        show Steps p.tables e below (T836.setTop (mkF m 287 #[.val (.int p0), .val (.int p1), .val (.int p2), .val (.int p3), .val (.int (0 : Int32)), .val (.int (0 : Int32)), .val (.int (0 : Int32)), .val (.int (1 : Int32)), .val (.int (3 : Int32)), .val (.int (2 : Int32)), .val (.int ((p0 &&& (2147483647 : Int32)) % (3 : Int32))), .val (.int ((p1 &&& (2147483647 : Int32)) % (3 : Int32))), .val (.int ((p2 &&& (2147483647 : Int32)) % (2 : Int32))), .val (.ref b714), .val (.ref b789), .val (.int (1 : Int32)), .val (.int (own_b (¬ ((p1 &&& (2147483647 : Int32)) % (3 : Int32)) = ((p0 &&& (2147483647 : Int32)) % (3 : Int32))))), .val (.int (1 : Int32)), .val (.int (0 : Int32)), .val (.int (0 : Int32)), .val (.int (1 : Int32)), .val (.int (1 : Int32))] [(.int (1 : Int32))])) _
        refine XS.istore X836.here hx rfl (hb hby at_287) rfl (l' := #[.val (.int p0), .val (.int p1), .val (.int p2), .val (.int p3), .val (.int (0 : Int32)), .val (.int (0 : Int32)), .val (.int (0 : Int32)), .val (.int (1 : Int32)), .val (.int (3 : Int32)), .val (.int (2 : Int32)), .val (.int ((p0 &&& (2147483647 : Int32)) % (3 : Int32))), .val (.int ((p1 &&& (2147483647 : Int32)) % (3 : Int32))), .val (.int ((p2 &&& (2147483647 : Int32)) % (2 : Int32))), .val (.ref b714), .val (.ref b789), .val (.int (1 : Int32)), .val (.int (own_b (¬ ((p1 &&& (2147483647 : Int32)) % (3 : Int32)) = ((p0 &&& (2147483647 : Int32)) % (3 : Int32))))), .val (.int (1 : Int32)), .val (.int (0 : Int32)), .val (.int (0 : Int32)), .val (.int (1 : Int32)), .val (.int (1 : Int32))]) rfl ?_
        show Steps p.tables e below (T836.setTop (mkF m 289 #[.val (.int p0), .val (.int p1), .val (.int p2), .val (.int p3), .val (.int (0 : Int32)), .val (.int (0 : Int32)), .val (.int (0 : Int32)), .val (.int (1 : Int32)), .val (.int (3 : Int32)), .val (.int (2 : Int32)), .val (.int ((p0 &&& (2147483647 : Int32)) % (3 : Int32))), .val (.int ((p1 &&& (2147483647 : Int32)) % (3 : Int32))), .val (.int ((p2 &&& (2147483647 : Int32)) % (2 : Int32))), .val (.ref b714), .val (.ref b789), .val (.int (1 : Int32)), .val (.int (own_b (¬ ((p1 &&& (2147483647 : Int32)) % (3 : Int32)) = ((p0 &&& (2147483647 : Int32)) % (3 : Int32))))), .val (.int (1 : Int32)), .val (.int (0 : Int32)), .val (.int (0 : Int32)), .val (.int (1 : Int32)), .val (.int (1 : Int32))] [])) _
        refine XS.iload X836.here hx rfl (hb hby at_289) rfl ?_
        show Steps p.tables e below (T836.setTop (mkF m 291 #[.val (.int p0), .val (.int p1), .val (.int p2), .val (.int p3), .val (.int (0 : Int32)), .val (.int (0 : Int32)), .val (.int (0 : Int32)), .val (.int (1 : Int32)), .val (.int (3 : Int32)), .val (.int (2 : Int32)), .val (.int ((p0 &&& (2147483647 : Int32)) % (3 : Int32))), .val (.int ((p1 &&& (2147483647 : Int32)) % (3 : Int32))), .val (.int ((p2 &&& (2147483647 : Int32)) % (2 : Int32))), .val (.ref b714), .val (.ref b789), .val (.int (1 : Int32)), .val (.int (own_b (¬ ((p1 &&& (2147483647 : Int32)) % (3 : Int32)) = ((p0 &&& (2147483647 : Int32)) % (3 : Int32))))), .val (.int (1 : Int32)), .val (.int (0 : Int32)), .val (.int (0 : Int32)), .val (.int (1 : Int32)), .val (.int (1 : Int32))] [(.int (1 : Int32))])) _
        refine XS.ifNo X836.here hx rfl (hb hby at_291) rfl (by decide) ?_
        show Steps p.tables e below (T836.setTop (mkF m 294 #[.val (.int p0), .val (.int p1), .val (.int p2), .val (.int p3), .val (.int (0 : Int32)), .val (.int (0 : Int32)), .val (.int (0 : Int32)), .val (.int (1 : Int32)), .val (.int (3 : Int32)), .val (.int (2 : Int32)), .val (.int ((p0 &&& (2147483647 : Int32)) % (3 : Int32))), .val (.int ((p1 &&& (2147483647 : Int32)) % (3 : Int32))), .val (.int ((p2 &&& (2147483647 : Int32)) % (2 : Int32))), .val (.ref b714), .val (.ref b789), .val (.int (1 : Int32)), .val (.int (own_b (¬ ((p1 &&& (2147483647 : Int32)) % (3 : Int32)) = ((p0 &&& (2147483647 : Int32)) % (3 : Int32))))), .val (.int (1 : Int32)), .val (.int (0 : Int32)), .val (.int (0 : Int32)), .val (.int (1 : Int32)), .val (.int (1 : Int32))] [])) _
        refine XS.iload X836.here hx rfl (hb hby at_294) rfl ?_
        show Steps p.tables e below (T836.setTop (mkF m 296 #[.val (.int p0), .val (.int p1), .val (.int p2), .val (.int p3), .val (.int (0 : Int32)), .val (.int (0 : Int32)), .val (.int (0 : Int32)), .val (.int (1 : Int32)), .val (.int (3 : Int32)), .val (.int (2 : Int32)), .val (.int ((p0 &&& (2147483647 : Int32)) % (3 : Int32))), .val (.int ((p1 &&& (2147483647 : Int32)) % (3 : Int32))), .val (.int ((p2 &&& (2147483647 : Int32)) % (2 : Int32))), .val (.ref b714), .val (.ref b789), .val (.int (1 : Int32)), .val (.int (own_b (¬ ((p1 &&& (2147483647 : Int32)) % (3 : Int32)) = ((p0 &&& (2147483647 : Int32)) % (3 : Int32))))), .val (.int (1 : Int32)), .val (.int (0 : Int32)), .val (.int (0 : Int32)), .val (.int (1 : Int32)), .val (.int (1 : Int32))] [(.int (0 : Int32))])) _
        refine XS.ifNo X836.here hx rfl (hb hby at_296) rfl (by decide) ?_
        show Steps p.tables e below (T836.setTop (mkF m 299 #[.val (.int p0), .val (.int p1), .val (.int p2), .val (.int p3), .val (.int (0 : Int32)), .val (.int (0 : Int32)), .val (.int (0 : Int32)), .val (.int (1 : Int32)), .val (.int (3 : Int32)), .val (.int (2 : Int32)), .val (.int ((p0 &&& (2147483647 : Int32)) % (3 : Int32))), .val (.int ((p1 &&& (2147483647 : Int32)) % (3 : Int32))), .val (.int ((p2 &&& (2147483647 : Int32)) % (2 : Int32))), .val (.ref b714), .val (.ref b789), .val (.int (1 : Int32)), .val (.int (own_b (¬ ((p1 &&& (2147483647 : Int32)) % (3 : Int32)) = ((p0 &&& (2147483647 : Int32)) % (3 : Int32))))), .val (.int (1 : Int32)), .val (.int (0 : Int32)), .val (.int (0 : Int32)), .val (.int (1 : Int32)), .val (.int (1 : Int32))] [])) _
        refine XS.iconst X836.here hx rfl (hb hby at_299) ?_
        show Steps p.tables e below (T836.setTop (mkF m 300 #[.val (.int p0), .val (.int p1), .val (.int p2), .val (.int p3), .val (.int (0 : Int32)), .val (.int (0 : Int32)), .val (.int (0 : Int32)), .val (.int (1 : Int32)), .val (.int (3 : Int32)), .val (.int (2 : Int32)), .val (.int ((p0 &&& (2147483647 : Int32)) % (3 : Int32))), .val (.int ((p1 &&& (2147483647 : Int32)) % (3 : Int32))), .val (.int ((p2 &&& (2147483647 : Int32)) % (2 : Int32))), .val (.ref b714), .val (.ref b789), .val (.int (1 : Int32)), .val (.int (own_b (¬ ((p1 &&& (2147483647 : Int32)) % (3 : Int32)) = ((p0 &&& (2147483647 : Int32)) % (3 : Int32))))), .val (.int (1 : Int32)), .val (.int (0 : Int32)), .val (.int (0 : Int32)), .val (.int (1 : Int32)), .val (.int (1 : Int32))] [(.int (1 : Int32))])) _
        refine XS.goto X836.here hx rfl (pc0 := 300) (pc' := 304) rfl (hb hby at_300) (by decide) (by decide) ?_
        show Steps p.tables e below (T836.setTop (mkF m 304 #[.val (.int p0), .val (.int p1), .val (.int p2), .val (.int p3), .val (.int (0 : Int32)), .val (.int (0 : Int32)), .val (.int (0 : Int32)), .val (.int (1 : Int32)), .val (.int (3 : Int32)), .val (.int (2 : Int32)), .val (.int ((p0 &&& (2147483647 : Int32)) % (3 : Int32))), .val (.int ((p1 &&& (2147483647 : Int32)) % (3 : Int32))), .val (.int ((p2 &&& (2147483647 : Int32)) % (2 : Int32))), .val (.ref b714), .val (.ref b789), .val (.int (1 : Int32)), .val (.int (own_b (¬ ((p1 &&& (2147483647 : Int32)) % (3 : Int32)) = ((p0 &&& (2147483647 : Int32)) % (3 : Int32))))), .val (.int (1 : Int32)), .val (.int (0 : Int32)), .val (.int (0 : Int32)), .val (.int (1 : Int32)), .val (.int (1 : Int32))] [(.int (1 : Int32))])) _
        refine XS.istore X836.here hx rfl (hb hby at_304) rfl (l' := #[.val (.int p0), .val (.int p1), .val (.int p2), .val (.int p3), .val (.int (0 : Int32)), .val (.int (0 : Int32)), .val (.int (0 : Int32)), .val (.int (1 : Int32)), .val (.int (3 : Int32)), .val (.int (2 : Int32)), .val (.int ((p0 &&& (2147483647 : Int32)) % (3 : Int32))), .val (.int ((p1 &&& (2147483647 : Int32)) % (3 : Int32))), .val (.int ((p2 &&& (2147483647 : Int32)) % (2 : Int32))), .val (.ref b714), .val (.ref b789), .val (.int (1 : Int32)), .val (.int (own_b (¬ ((p1 &&& (2147483647 : Int32)) % (3 : Int32)) = ((p0 &&& (2147483647 : Int32)) % (3 : Int32))))), .val (.int (1 : Int32)), .val (.int (0 : Int32)), .val (.int (0 : Int32)), .val (.int (1 : Int32)), .val (.int (1 : Int32))]) rfl ?_
        show Steps p.tables e below (T836.setTop (mkF m 306 #[.val (.int p0), .val (.int p1), .val (.int p2), .val (.int p3), .val (.int (0 : Int32)), .val (.int (0 : Int32)), .val (.int (0 : Int32)), .val (.int (1 : Int32)), .val (.int (3 : Int32)), .val (.int (2 : Int32)), .val (.int ((p0 &&& (2147483647 : Int32)) % (3 : Int32))), .val (.int ((p1 &&& (2147483647 : Int32)) % (3 : Int32))), .val (.int ((p2 &&& (2147483647 : Int32)) % (2 : Int32))), .val (.ref b714), .val (.ref b789), .val (.int (1 : Int32)), .val (.int (own_b (¬ ((p1 &&& (2147483647 : Int32)) % (3 : Int32)) = ((p0 &&& (2147483647 : Int32)) % (3 : Int32))))), .val (.int (1 : Int32)), .val (.int (0 : Int32)), .val (.int (0 : Int32)), .val (.int (1 : Int32)), .val (.int (1 : Int32))] [])) _
        refine XS.iload X836.here hx rfl (hb hby at_306) rfl ?_
        show Steps p.tables e below (T836.setTop (mkF m 308 #[.val (.int p0), .val (.int p1), .val (.int p2), .val (.int p3), .val (.int (0 : Int32)), .val (.int (0 : Int32)), .val (.int (0 : Int32)), .val (.int (1 : Int32)), .val (.int (3 : Int32)), .val (.int (2 : Int32)), .val (.int ((p0 &&& (2147483647 : Int32)) % (3 : Int32))), .val (.int ((p1 &&& (2147483647 : Int32)) % (3 : Int32))), .val (.int ((p2 &&& (2147483647 : Int32)) % (2 : Int32))), .val (.ref b714), .val (.ref b789), .val (.int (1 : Int32)), .val (.int (own_b (¬ ((p1 &&& (2147483647 : Int32)) % (3 : Int32)) = ((p0 &&& (2147483647 : Int32)) % (3 : Int32))))), .val (.int (1 : Int32)), .val (.int (0 : Int32)), .val (.int (0 : Int32)), .val (.int (1 : Int32)), .val (.int (1 : Int32))] [(.int (1 : Int32))])) _
        refine XS.ifNo X836.here hx rfl (hb hby at_308) rfl (by decide) ?_
        show Steps p.tables e below (T836.setTop (mkF m 311 #[.val (.int p0), .val (.int p1), .val (.int p2), .val (.int p3), .val (.int (0 : Int32)), .val (.int (0 : Int32)), .val (.int (0 : Int32)), .val (.int (1 : Int32)), .val (.int (3 : Int32)), .val (.int (2 : Int32)), .val (.int ((p0 &&& (2147483647 : Int32)) % (3 : Int32))), .val (.int ((p1 &&& (2147483647 : Int32)) % (3 : Int32))), .val (.int ((p2 &&& (2147483647 : Int32)) % (2 : Int32))), .val (.ref b714), .val (.ref b789), .val (.int (1 : Int32)), .val (.int (own_b (¬ ((p1 &&& (2147483647 : Int32)) % (3 : Int32)) = ((p0 &&& (2147483647 : Int32)) % (3 : Int32))))), .val (.int (1 : Int32)), .val (.int (0 : Int32)), .val (.int (0 : Int32)), .val (.int (1 : Int32)), .val (.int (1 : Int32))] [])) _
        refine XS.iload X836.here hx rfl (hb hby at_311) rfl ?_
        show Steps p.tables e below (T836.setTop (mkF m 313 #[.val (.int p0), .val (.int p1), .val (.int p2), .val (.int p3), .val (.int (0 : Int32)), .val (.int (0 : Int32)), .val (.int (0 : Int32)), .val (.int (1 : Int32)), .val (.int (3 : Int32)), .val (.int (2 : Int32)), .val (.int ((p0 &&& (2147483647 : Int32)) % (3 : Int32))), .val (.int ((p1 &&& (2147483647 : Int32)) % (3 : Int32))), .val (.int ((p2 &&& (2147483647 : Int32)) % (2 : Int32))), .val (.ref b714), .val (.ref b789), .val (.int (1 : Int32)), .val (.int (own_b (¬ ((p1 &&& (2147483647 : Int32)) % (3 : Int32)) = ((p0 &&& (2147483647 : Int32)) % (3 : Int32))))), .val (.int (1 : Int32)), .val (.int (0 : Int32)), .val (.int (0 : Int32)), .val (.int (1 : Int32)), .val (.int (1 : Int32))] [(.int (0 : Int32))])) _
        refine XS.iload X836.here hx rfl (hb hby at_313) rfl ?_
        show Steps p.tables e below (T836.setTop (mkF m 315 #[.val (.int p0), .val (.int p1), .val (.int p2), .val (.int p3), .val (.int (0 : Int32)), .val (.int (0 : Int32)), .val (.int (0 : Int32)), .val (.int (1 : Int32)), .val (.int (3 : Int32)), .val (.int (2 : Int32)), .val (.int ((p0 &&& (2147483647 : Int32)) % (3 : Int32))), .val (.int ((p1 &&& (2147483647 : Int32)) % (3 : Int32))), .val (.int ((p2 &&& (2147483647 : Int32)) % (2 : Int32))), .val (.ref b714), .val (.ref b789), .val (.int (1 : Int32)), .val (.int (own_b (¬ ((p1 &&& (2147483647 : Int32)) % (3 : Int32)) = ((p0 &&& (2147483647 : Int32)) % (3 : Int32))))), .val (.int (1 : Int32)), .val (.int (0 : Int32)), .val (.int (0 : Int32)), .val (.int (1 : Int32)), .val (.int (1 : Int32))] [(.int (0 : Int32)), (.int (0 : Int32))])) _
        refine XS.icmpNo X836.here hx rfl (hb hby at_315) rfl (by decide) ?_
        show Steps p.tables e below (T836.setTop (mkF m 318 #[.val (.int p0), .val (.int p1), .val (.int p2), .val (.int p3), .val (.int (0 : Int32)), .val (.int (0 : Int32)), .val (.int (0 : Int32)), .val (.int (1 : Int32)), .val (.int (3 : Int32)), .val (.int (2 : Int32)), .val (.int ((p0 &&& (2147483647 : Int32)) % (3 : Int32))), .val (.int ((p1 &&& (2147483647 : Int32)) % (3 : Int32))), .val (.int ((p2 &&& (2147483647 : Int32)) % (2 : Int32))), .val (.ref b714), .val (.ref b789), .val (.int (1 : Int32)), .val (.int (own_b (¬ ((p1 &&& (2147483647 : Int32)) % (3 : Int32)) = ((p0 &&& (2147483647 : Int32)) % (3 : Int32))))), .val (.int (1 : Int32)), .val (.int (0 : Int32)), .val (.int (0 : Int32)), .val (.int (1 : Int32)), .val (.int (1 : Int32))] [])) _
        refine XS.iconst X836.here hx rfl (hb hby at_318) ?_
        show Steps p.tables e below (T836.setTop (mkF m 319 #[.val (.int p0), .val (.int p1), .val (.int p2), .val (.int p3), .val (.int (0 : Int32)), .val (.int (0 : Int32)), .val (.int (0 : Int32)), .val (.int (1 : Int32)), .val (.int (3 : Int32)), .val (.int (2 : Int32)), .val (.int ((p0 &&& (2147483647 : Int32)) % (3 : Int32))), .val (.int ((p1 &&& (2147483647 : Int32)) % (3 : Int32))), .val (.int ((p2 &&& (2147483647 : Int32)) % (2 : Int32))), .val (.ref b714), .val (.ref b789), .val (.int (1 : Int32)), .val (.int (own_b (¬ ((p1 &&& (2147483647 : Int32)) % (3 : Int32)) = ((p0 &&& (2147483647 : Int32)) % (3 : Int32))))), .val (.int (1 : Int32)), .val (.int (0 : Int32)), .val (.int (0 : Int32)), .val (.int (1 : Int32)), .val (.int (1 : Int32))] [(.int (1 : Int32))])) _
        refine XS.goto X836.here hx rfl (pc0 := 319) (pc' := 323) rfl (hb hby at_319) (by decide) (by decide) ?_
        show Steps p.tables e below (T836.setTop (mkF m 323 #[.val (.int p0), .val (.int p1), .val (.int p2), .val (.int p3), .val (.int (0 : Int32)), .val (.int (0 : Int32)), .val (.int (0 : Int32)), .val (.int (1 : Int32)), .val (.int (3 : Int32)), .val (.int (2 : Int32)), .val (.int ((p0 &&& (2147483647 : Int32)) % (3 : Int32))), .val (.int ((p1 &&& (2147483647 : Int32)) % (3 : Int32))), .val (.int ((p2 &&& (2147483647 : Int32)) % (2 : Int32))), .val (.ref b714), .val (.ref b789), .val (.int (1 : Int32)), .val (.int (own_b (¬ ((p1 &&& (2147483647 : Int32)) % (3 : Int32)) = ((p0 &&& (2147483647 : Int32)) % (3 : Int32))))), .val (.int (1 : Int32)), .val (.int (0 : Int32)), .val (.int (0 : Int32)), .val (.int (1 : Int32)), .val (.int (1 : Int32))] [(.int (1 : Int32))])) _
        refine XS.istore X836.here hx rfl (hb hby at_323) rfl (l' := #[.val (.int p0), .val (.int p1), .val (.int p2), .val (.int p3), .val (.int (0 : Int32)), .val (.int (0 : Int32)), .val (.int (0 : Int32)), .val (.int (1 : Int32)), .val (.int (3 : Int32)), .val (.int (2 : Int32)), .val (.int ((p0 &&& (2147483647 : Int32)) % (3 : Int32))), .val (.int ((p1 &&& (2147483647 : Int32)) % (3 : Int32))), .val (.int ((p2 &&& (2147483647 : Int32)) % (2 : Int32))), .val (.ref b714), .val (.ref b789), .val (.int (1 : Int32)), .val (.int (own_b (¬ ((p1 &&& (2147483647 : Int32)) % (3 : Int32)) = ((p0 &&& (2147483647 : Int32)) % (3 : Int32))))), .val (.int (1 : Int32)), .val (.int (0 : Int32)), .val (.int (0 : Int32)), .val (.int (1 : Int32)), .val (.int (1 : Int32))]) rfl ?_
        show Steps p.tables e below (T836.setTop (mkF m 325 #[.val (.int p0), .val (.int p1), .val (.int p2), .val (.int p3), .val (.int (0 : Int32)), .val (.int (0 : Int32)), .val (.int (0 : Int32)), .val (.int (1 : Int32)), .val (.int (3 : Int32)), .val (.int (2 : Int32)), .val (.int ((p0 &&& (2147483647 : Int32)) % (3 : Int32))), .val (.int ((p1 &&& (2147483647 : Int32)) % (3 : Int32))), .val (.int ((p2 &&& (2147483647 : Int32)) % (2 : Int32))), .val (.ref b714), .val (.ref b789), .val (.int (1 : Int32)), .val (.int (own_b (¬ ((p1 &&& (2147483647 : Int32)) % (3 : Int32)) = ((p0 &&& (2147483647 : Int32)) % (3 : Int32))))), .val (.int (1 : Int32)), .val (.int (0 : Int32)), .val (.int (0 : Int32)), .val (.int (1 : Int32)), .val (.int (1 : Int32))] [])) _
        refine XS.iload X836.here hx rfl (hb hby at_325) rfl ?_
        show Steps p.tables e below (T836.setTop (mkF m 327 #[.val (.int p0), .val (.int p1), .val (.int p2), .val (.int p3), .val (.int (0 : Int32)), .val (.int (0 : Int32)), .val (.int (0 : Int32)), .val (.int (1 : Int32)), .val (.int (3 : Int32)), .val (.int (2 : Int32)), .val (.int ((p0 &&& (2147483647 : Int32)) % (3 : Int32))), .val (.int ((p1 &&& (2147483647 : Int32)) % (3 : Int32))), .val (.int ((p2 &&& (2147483647 : Int32)) % (2 : Int32))), .val (.ref b714), .val (.ref b789), .val (.int (1 : Int32)), .val (.int (own_b (¬ ((p1 &&& (2147483647 : Int32)) % (3 : Int32)) = ((p0 &&& (2147483647 : Int32)) % (3 : Int32))))), .val (.int (1 : Int32)), .val (.int (0 : Int32)), .val (.int (0 : Int32)), .val (.int (1 : Int32)), .val (.int (1 : Int32))] [(.int (1 : Int32))])) _
        refine XS.ifNo X836.here hx rfl (hb hby at_327) rfl (by decide) ?_
        show Steps p.tables e below (T836.setTop (mkF m 330 #[.val (.int p0), .val (.int p1), .val (.int p2), .val (.int p3), .val (.int (0 : Int32)), .val (.int (0 : Int32)), .val (.int (0 : Int32)), .val (.int (1 : Int32)), .val (.int (3 : Int32)), .val (.int (2 : Int32)), .val (.int ((p0 &&& (2147483647 : Int32)) % (3 : Int32))), .val (.int ((p1 &&& (2147483647 : Int32)) % (3 : Int32))), .val (.int ((p2 &&& (2147483647 : Int32)) % (2 : Int32))), .val (.ref b714), .val (.ref b789), .val (.int (1 : Int32)), .val (.int (own_b (¬ ((p1 &&& (2147483647 : Int32)) % (3 : Int32)) = ((p0 &&& (2147483647 : Int32)) % (3 : Int32))))), .val (.int (1 : Int32)), .val (.int (0 : Int32)), .val (.int (0 : Int32)), .val (.int (1 : Int32)), .val (.int (1 : Int32))] [])) _
        refine XS.iload X836.here hx rfl (hb hby at_330) rfl ?_
        show Steps p.tables e below (T836.setTop (mkF m 332 #[.val (.int p0), .val (.int p1), .val (.int p2), .val (.int p3), .val (.int (0 : Int32)), .val (.int (0 : Int32)), .val (.int (0 : Int32)), .val (.int (1 : Int32)), .val (.int (3 : Int32)), .val (.int (2 : Int32)), .val (.int ((p0 &&& (2147483647 : Int32)) % (3 : Int32))), .val (.int ((p1 &&& (2147483647 : Int32)) % (3 : Int32))), .val (.int ((p2 &&& (2147483647 : Int32)) % (2 : Int32))), .val (.ref b714), .val (.ref b789), .val (.int (1 : Int32)), .val (.int (own_b (¬ ((p1 &&& (2147483647 : Int32)) % (3 : Int32)) = ((p0 &&& (2147483647 : Int32)) % (3 : Int32))))), .val (.int (1 : Int32)), .val (.int (0 : Int32)), .val (.int (0 : Int32)), .val (.int (1 : Int32)), .val (.int (1 : Int32))] [(.int (1 : Int32))])) _
        refine XS.iload X836.here hx rfl (hb hby at_332) rfl ?_
        show Steps p.tables e below (T836.setTop (mkF m 334 #[.val (.int p0), .val (.int p1), .val (.int p2), .val (.int p3), .val (.int (0 : Int32)), .val (.int (0 : Int32)), .val (.int (0 : Int32)), .val (.int (1 : Int32)), .val (.int (3 : Int32)), .val (.int (2 : Int32)), .val (.int ((p0 &&& (2147483647 : Int32)) % (3 : Int32))), .val (.int ((p1 &&& (2147483647 : Int32)) % (3 : Int32))), .val (.int ((p2 &&& (2147483647 : Int32)) % (2 : Int32))), .val (.ref b714), .val (.ref b789), .val (.int (1 : Int32)), .val (.int (own_b (¬ ((p1 &&& (2147483647 : Int32)) % (3 : Int32)) = ((p0 &&& (2147483647 : Int32)) % (3 : Int32))))), .val (.int (1 : Int32)), .val (.int (0 : Int32)), .val (.int (0 : Int32)), .val (.int (1 : Int32)), .val (.int (1 : Int32))] [(.int (0 : Int32)), (.int (1 : Int32))])) _
        refine XS.ifNo X836.here hx rfl (hb hby at_334) rfl (by decide) ?_
        show Steps p.tables e below (T836.setTop (mkF m 337 #[.val (.int p0), .val (.int p1), .val (.int p2), .val (.int p3), .val (.int (0 : Int32)), .val (.int (0 : Int32)), .val (.int (0 : Int32)), .val (.int (1 : Int32)), .val (.int (3 : Int32)), .val (.int (2 : Int32)), .val (.int ((p0 &&& (2147483647 : Int32)) % (3 : Int32))), .val (.int ((p1 &&& (2147483647 : Int32)) % (3 : Int32))), .val (.int ((p2 &&& (2147483647 : Int32)) % (2 : Int32))), .val (.ref b714), .val (.ref b789), .val (.int (1 : Int32)), .val (.int (own_b (¬ ((p1 &&& (2147483647 : Int32)) % (3 : Int32)) = ((p0 &&& (2147483647 : Int32)) % (3 : Int32))))), .val (.int (1 : Int32)), .val (.int (0 : Int32)), .val (.int (0 : Int32)), .val (.int (1 : Int32)), .val (.int (1 : Int32))] [(.int (1 : Int32))])) _
        refine XS.iconst X836.here hx rfl (hb hby at_337) ?_
        show Steps p.tables e below (T836.setTop (mkF m 338 #[.val (.int p0), .val (.int p1), .val (.int p2), .val (.int p3), .val (.int (0 : Int32)), .val (.int (0 : Int32)), .val (.int (0 : Int32)), .val (.int (1 : Int32)), .val (.int (3 : Int32)), .val (.int (2 : Int32)), .val (.int ((p0 &&& (2147483647 : Int32)) % (3 : Int32))), .val (.int ((p1 &&& (2147483647 : Int32)) % (3 : Int32))), .val (.int ((p2 &&& (2147483647 : Int32)) % (2 : Int32))), .val (.ref b714), .val (.ref b789), .val (.int (1 : Int32)), .val (.int (own_b (¬ ((p1 &&& (2147483647 : Int32)) % (3 : Int32)) = ((p0 &&& (2147483647 : Int32)) % (3 : Int32))))), .val (.int (1 : Int32)), .val (.int (0 : Int32)), .val (.int (0 : Int32)), .val (.int (1 : Int32)), .val (.int (1 : Int32))] [(.int (1 : Int32)), (.int (1 : Int32))])) _
        refine XS.goto X836.here hx rfl (pc0 := 338) (pc' := 342) rfl (hb hby at_338) (by decide) (by decide) ?_
        show Steps p.tables e below (T836.setTop (mkF m 342 #[.val (.int p0), .val (.int p1), .val (.int p2), .val (.int p3), .val (.int (0 : Int32)), .val (.int (0 : Int32)), .val (.int (0 : Int32)), .val (.int (1 : Int32)), .val (.int (3 : Int32)), .val (.int (2 : Int32)), .val (.int ((p0 &&& (2147483647 : Int32)) % (3 : Int32))), .val (.int ((p1 &&& (2147483647 : Int32)) % (3 : Int32))), .val (.int ((p2 &&& (2147483647 : Int32)) % (2 : Int32))), .val (.ref b714), .val (.ref b789), .val (.int (1 : Int32)), .val (.int (own_b (¬ ((p1 &&& (2147483647 : Int32)) % (3 : Int32)) = ((p0 &&& (2147483647 : Int32)) % (3 : Int32))))), .val (.int (1 : Int32)), .val (.int (0 : Int32)), .val (.int (0 : Int32)), .val (.int (1 : Int32)), .val (.int (1 : Int32))] [(.int (1 : Int32)), (.int (1 : Int32))])) _
        refine XS.icmpNo X836.here hx rfl (hb hby at_342) rfl (by decide) ?_
        show Steps p.tables e below (T836.setTop (mkF m 345 #[.val (.int p0), .val (.int p1), .val (.int p2), .val (.int p3), .val (.int (0 : Int32)), .val (.int (0 : Int32)), .val (.int (0 : Int32)), .val (.int (1 : Int32)), .val (.int (3 : Int32)), .val (.int (2 : Int32)), .val (.int ((p0 &&& (2147483647 : Int32)) % (3 : Int32))), .val (.int ((p1 &&& (2147483647 : Int32)) % (3 : Int32))), .val (.int ((p2 &&& (2147483647 : Int32)) % (2 : Int32))), .val (.ref b714), .val (.ref b789), .val (.int (1 : Int32)), .val (.int (own_b (¬ ((p1 &&& (2147483647 : Int32)) % (3 : Int32)) = ((p0 &&& (2147483647 : Int32)) % (3 : Int32))))), .val (.int (1 : Int32)), .val (.int (0 : Int32)), .val (.int (0 : Int32)), .val (.int (1 : Int32)), .val (.int (1 : Int32))] [])) _
        refine XS.iconst X836.here hx rfl (hb hby at_345) ?_
        show Steps p.tables e below (T836.setTop (mkF m 346 #[.val (.int p0), .val (.int p1), .val (.int p2), .val (.int p3), .val (.int (0 : Int32)), .val (.int (0 : Int32)), .val (.int (0 : Int32)), .val (.int (1 : Int32)), .val (.int (3 : Int32)), .val (.int (2 : Int32)), .val (.int ((p0 &&& (2147483647 : Int32)) % (3 : Int32))), .val (.int ((p1 &&& (2147483647 : Int32)) % (3 : Int32))), .val (.int ((p2 &&& (2147483647 : Int32)) % (2 : Int32))), .val (.ref b714), .val (.ref b789), .val (.int (1 : Int32)), .val (.int (own_b (¬ ((p1 &&& (2147483647 : Int32)) % (3 : Int32)) = ((p0 &&& (2147483647 : Int32)) % (3 : Int32))))), .val (.int (1 : Int32)), .val (.int (0 : Int32)), .val (.int (0 : Int32)), .val (.int (1 : Int32)), .val (.int (1 : Int32))] [(.int (1 : Int32))])) _
        refine XS.goto X836.here hx rfl (pc0 := 346) (pc' := 350) rfl (hb hby at_346) (by decide) (by decide) ?_
        show Steps p.tables e below (T836.setTop (mkF m 350 #[.val (.int p0), .val (.int p1), .val (.int p2), .val (.int p3), .val (.int (0 : Int32)), .val (.int (0 : Int32)), .val (.int (0 : Int32)), .val (.int (1 : Int32)), .val (.int (3 : Int32)), .val (.int (2 : Int32)), .val (.int ((p0 &&& (2147483647 : Int32)) % (3 : Int32))), .val (.int ((p1 &&& (2147483647 : Int32)) % (3 : Int32))), .val (.int ((p2 &&& (2147483647 : Int32)) % (2 : Int32))), .val (.ref b714), .val (.ref b789), .val (.int (1 : Int32)), .val (.int (own_b (¬ ((p1 &&& (2147483647 : Int32)) % (3 : Int32)) = ((p0 &&& (2147483647 : Int32)) % (3 : Int32))))), .val (.int (1 : Int32)), .val (.int (0 : Int32)), .val (.int (0 : Int32)), .val (.int (1 : Int32)), .val (.int (1 : Int32))] [(.int (1 : Int32))])) _
        refine XS.istore X836.here hx rfl (hb hby at_350) rfl (l' := #[.val (.int p0), .val (.int p1), .val (.int p2), .val (.int p3), .val (.int (0 : Int32)), .val (.int (0 : Int32)), .val (.int (0 : Int32)), .val (.int (1 : Int32)), .val (.int (3 : Int32)), .val (.int (2 : Int32)), .val (.int ((p0 &&& (2147483647 : Int32)) % (3 : Int32))), .val (.int ((p1 &&& (2147483647 : Int32)) % (3 : Int32))), .val (.int ((p2 &&& (2147483647 : Int32)) % (2 : Int32))), .val (.ref b714), .val (.ref b789), .val (.int (1 : Int32)), .val (.int (own_b (¬ ((p1 &&& (2147483647 : Int32)) % (3 : Int32)) = ((p0 &&& (2147483647 : Int32)) % (3 : Int32))))), .val (.int (1 : Int32)), .val (.int (0 : Int32)), .val (.int (0 : Int32)), .val (.int (1 : Int32)), .val (.int (1 : Int32))]) rfl ?_
        show Steps p.tables e below (T836.setTop (mkF m 352 #[.val (.int p0), .val (.int p1), .val (.int p2), .val (.int p3), .val (.int (0 : Int32)), .val (.int (0 : Int32)), .val (.int (0 : Int32)), .val (.int (1 : Int32)), .val (.int (3 : Int32)), .val (.int (2 : Int32)), .val (.int ((p0 &&& (2147483647 : Int32)) % (3 : Int32))), .val (.int ((p1 &&& (2147483647 : Int32)) % (3 : Int32))), .val (.int ((p2 &&& (2147483647 : Int32)) % (2 : Int32))), .val (.ref b714), .val (.ref b789), .val (.int (1 : Int32)), .val (.int (own_b (¬ ((p1 &&& (2147483647 : Int32)) % (3 : Int32)) = ((p0 &&& (2147483647 : Int32)) % (3 : Int32))))), .val (.int (1 : Int32)), .val (.int (0 : Int32)), .val (.int (0 : Int32)), .val (.int (1 : Int32)), .val (.int (1 : Int32))] [])) _
        refine XS.iload X836.here hx rfl (hb hby at_352) rfl ?_
        show Steps p.tables e below (T836.setTop (mkF m 354 #[.val (.int p0), .val (.int p1), .val (.int p2), .val (.int p3), .val (.int (0 : Int32)), .val (.int (0 : Int32)), .val (.int (0 : Int32)), .val (.int (1 : Int32)), .val (.int (3 : Int32)), .val (.int (2 : Int32)), .val (.int ((p0 &&& (2147483647 : Int32)) % (3 : Int32))), .val (.int ((p1 &&& (2147483647 : Int32)) % (3 : Int32))), .val (.int ((p2 &&& (2147483647 : Int32)) % (2 : Int32))), .val (.ref b714), .val (.ref b789), .val (.int (1 : Int32)), .val (.int (own_b (¬ ((p1 &&& (2147483647 : Int32)) % (3 : Int32)) = ((p0 &&& (2147483647 : Int32)) % (3 : Int32))))), .val (.int (1 : Int32)), .val (.int (0 : Int32)), .val (.int (0 : Int32)), .val (.int (1 : Int32)), .val (.int (1 : Int32))] [(.int (1 : Int32))])) _
        exact kq)
      have f847 := (Nat.le_trans (Nat.le_trans (Nat.le_trans (Nat.le_trans (Nat.le_trans (Nat.le_trans (Nat.le_trans (Nat.le_trans (Nat.le_trans (Nat.le_trans hk761 E765.1) K770.1) K779.1) E789.1) K794.1) K810.1) K815.1) K820.1) K825.1) K831.1)
      obtain ⟨fs, hr, hrun, hended, hRW⟩ := X836.leaveW (s := s) (vm₁ := T761.vm) hS (by rw [e836]; exact f847) (v := some (.int (nar .boolean (1 : Int32)))) (fun h => by rw [Bd.returns] at h; cases h)
      refine ⟨_, _, (by rw [← hA0]; exact G846 _ (retN X836 hx (t := .boolean) Bd.returns (by simp) (hb hby at_354) hr)), hrun, hended, _, _, rfl, ?_, hRW.1, hRW.2.1, hRW.2.2.1, hRW.2.2.2.mono (by decide) (by decide)⟩
      exact ⟨rfl, N836⟩
    · skip
      have G848 : Go p e below A0 (T825.setTop (mkF m 214 #[.val (.int p0), .val (.int p1), .val (.int p2), .val (.int p3), .val (.int (0 : Int32)), .val (.int (1 : Int32)), .val (.int (0 : Int32)), .val (.int (1 : Int32)), .val (.int (3 : Int32)), .val (.int (2 : Int32)), .val (.int ((p0 &&& (2147483647 : Int32)) % (3 : Int32))), .val (.int ((p1 &&& (2147483647 : Int32)) % (3 : Int32))), .val (.int ((p2 &&& (2147483647 : Int32)) % (2 : Int32))), .val (.ref b714), .val (.ref b789), .val (.int (1 : Int32)), .val (.int (own_b (¬ ((p1 &&& (2147483647 : Int32)) % (3 : Int32)) = ((p0 &&& (2147483647 : Int32)) % (3 : Int32))))), .val (.int (1 : Int32)), .val (.int (0 : Int32)), .unset, .unset, .unset] [(.ref b789)])) := fun tq kq => G829 tq (by
        refine XS.iload X825.here hx rfl (hb hby at_207) rfl ?_
        show Steps p.tables e below (T825.setTop (mkF m 209 #[.val (.int p0), .val (.int p1), .val (.int p2), .val (.int p3), .val (.int (0 : Int32)), .val (.int (1 : Int32)), .val (.int (0 : Int32)), .val (.int (1 : Int32)), .val (.int (3 : Int32)), .val (.int (2 : Int32)), .val (.int ((p0 &&& (2147483647 : Int32)) % (3 : Int32))), .val (.int ((p1 &&& (2147483647 : Int32)) % (3 : Int32))), .val (.int ((p2 &&& (2147483647 : Int32)) % (2 : Int32))), .val (.ref b714), .val (.ref b789), .val (.int (1 : Int32)), .val (.int (own_b (¬ ((p1 &&& (2147483647 : Int32)) % (3 : Int32)) = ((p0 &&& (2147483647 : Int32)) % (3 : Int32))))), .val (.int (1 : Int32)), .val (.int (0 : Int32)), .unset, .unset, .unset] [(.int (1 : Int32))])) _
        refine XS.ifNo X825.here hx rfl (hb hby at_209) rfl (by decide) ?_
        show Steps p.tables e below (T825.setTop (mkF m 212 #[.val (.int p0), .val (.int p1), .val (.int p2), .val (.int p3), .val (.int (0 : Int32)), .val (.int (1 : Int32)), .val (.int (0 : Int32)), .val (.int (1 : Int32)), .val (.int (3 : Int32)), .val (.int (2 : Int32)), .val (.int ((p0 &&& (2147483647 : Int32)) % (3 : Int32))), .val (.int ((p1 &&& (2147483647 : Int32)) % (3 : Int32))), .val (.int ((p2 &&& (2147483647 : Int32)) % (2 : Int32))), .val (.ref b714), .val (.ref b789), .val (.int (1 : Int32)), .val (.int (own_b (¬ ((p1 &&& (2147483647 : Int32)) % (3 : Int32)) = ((p0 &&& (2147483647 : Int32)) % (3 : Int32))))), .val (.int (1 : Int32)), .val (.int (0 : Int32)), .unset, .unset, .unset] [])) _
        refine XS.aload X825.here hx rfl (hb hby at_212) rfl rfl ?_
        show Steps p.tables e below (T825.setTop (mkF m 214 #[.val (.int p0), .val (.int p1), .val (.int p2), .val (.int p3), .val (.int (0 : Int32)), .val (.int (1 : Int32)), .val (.int (0 : Int32)), .val (.int (1 : Int32)), .val (.int (3 : Int32)), .val (.int (2 : Int32)), .val (.int ((p0 &&& (2147483647 : Int32)) % (3 : Int32))), .val (.int ((p1 &&& (2147483647 : Int32)) % (3 : Int32))), .val (.int ((p2 &&& (2147483647 : Int32)) % (2 : Int32))), .val (.ref b714), .val (.ref b789), .val (.int (1 : Int32)), .val (.int (own_b (¬ ((p1 &&& (2147483647 : Int32)) % (3 : Int32)) = ((p0 &&& (2147483647 : Int32)) % (3 : Int32))))), .val (.int (1 : Int32)), .val (.int (0 : Int32)), .unset, .unset, .unset] [(.ref b789)])) _
        exact kq)
      have f850 := (Nat.le_trans f826 K825.1)
      have f851 := (f827.keep K825)
      obtain ⟨cq849, kq849, q849a, q849b, q849c⟩ := isOf hZ rfl f851
      obtain ⟨_, _, ⟨T849, L849, k849, n849⟩, -, X849, ⟨Lc849, hQ849, l849, y849, z849⟩, st849⟩ := X825.virtualBack hx (y := (⟨"com/example/ludarc/ludarc/engine/Domains", "clearMarks", "()V"⟩ : MethodName)) (z := (⟨"com/example/ludarc/ludarc/engine/Domains", "clearMarks", "()V"⟩ : MethodName)) hown (mvT hZ (hw _ (List.mem_of_getElem? (i := 152) rfl))) (mvT hZ (hw _ (List.mem_of_getElem? (i := 153) rfl))) (notFace_of_selects (args := #[]) (mvT hZ (hw _ (List.mem_of_getElem? (i := 155) rfl)))) (mvT hZ (hw _ (List.mem_of_getElem? (i := 155) rfl))) (mvT hZ (hw _ (List.mem_of_getElem? (i := 154) rfl))) (by decide) (backOf (W := 0) (rm20 l Z a0 hw [] b789 mem_ pos_ siz_ mrk_ m0_ p0_ k0_ m1_ p1_ k1_ (own_sz) (own_id) (own_id) (own_up (own_up (own_up (own_zero) (((p0 &&& (2147483647 : Int32)) % (3 : Int32))).toNatClampNeg (1 : Int32)) (((p1 &&& (2147483647 : Int32)) % (3 : Int32))).toNatClampNeg (1 : Int32)) (((p0 &&& (2147483647 : Int32)) % (3 : Int32))).toNatClampNeg (1 : Int32)) (own_id) (own_id) (own_up (own_zero) (((p2 &&& (2147483647 : Int32)) % (2 : Int32))).toNatClampNeg (1 : Int32)) T825.heap n0 f850 ord794 dom825) hZ (hw _ (List.mem_of_getElem? (i := 156) rfl)) (hw _ (List.mem_of_getElem? (i := 87) rfl)) (by decide) (by decide)) q849a q849c (g := (mkF m 214 #[.val (.int p0), .val (.int p1), .val (.int p2), .val (.int p3), .val (.int (0 : Int32)), .val (.int (1 : Int32)), .val (.int (0 : Int32)), .val (.int (1 : Int32)), .val (.int (3 : Int32)), .val (.int (2 : Int32)), .val (.int ((p0 &&& (2147483647 : Int32)) % (3 : Int32))), .val (.int ((p1 &&& (2147483647 : Int32)) % (3 : Int32))), .val (.int ((p2 &&& (2147483647 : Int32)) % (2 : Int32))), .val (.ref b714), .val (.ref b789), .val (.int (1 : Int32)), .val (.int (own_b (¬ ((p1 &&& (2147483647 : Int32)) % (3 : Int32)) = ((p0 &&& (2147483647 : Int32)) % (3 : Int32))))), .val (.int (1 : Int32)), .val (.int (0 : Int32)), .unset, .unset, .unset] [(.ref b789)])) rfl (by rw [hml]; rfl) (Steps.refl _) (argsL := []) (rest := []) (lenOf pd_0 rfl) rfl (by show 2 * 0 + _ ≤ _; exact Nat.le_of_eq rfl) (hb hby at_214) (fun _ _ => ⟨rfl, rfl, (by decide : 21 + 0 ≤ _), (by decide : 72 + 0 ≤ _)⟩)
      dsimp only [Pt.U, Pt.locs, Pt.cells, Pt.slots] at X849 l849 y849 z849 st849 hQ849
      obtain rfl : k849 = 21 := y849
      obtain rfl : n849 = 72 := z849
      obtain ⟨rfl, N849q, K849, dom849⟩ := hQ849
      have N849 : Fr n0 L849 := by rw [l849]; exact Fr.app N825 N849q
      have G852 : Go p e below A0 (T849.setTop (mkF m 217 #[.val (.int p0), .val (.int p1), .val (.int p2), .val (.int p3), .val (.int (0 : Int32)), .val (.int (1 : Int32)), .val (.int (0 : Int32)), .val (.int (1 : Int32)), .val (.int (3 : Int32)), .val (.int (2 : Int32)), .val (.int ((p0 &&& (2147483647 : Int32)) % (3 : Int32))), .val (.int ((p1 &&& (2147483647 : Int32)) % (3 : Int32))), .val (.int ((p2 &&& (2147483647 : Int32)) % (2 : Int32))), .val (.ref b714), .val (.ref b789), .val (.int (1 : Int32)), .val (.int (own_b (¬ ((p1 &&& (2147483647 : Int32)) % (3 : Int32)) = ((p0 &&& (2147483647 : Int32)) % (3 : Int32))))), .val (.int (1 : Int32)), .val (.int (0 : Int32)), .unset, .unset, .unset] [])) := fun tq kq => G848 tq (st849.trans kq)
      have G853 : Go p e below A0 (T849.setTop (mkF m 223 #[.val (.int p0), .val (.int p1), .val (.int p2), .val (.int p3), .val (.int (0 : Int32)), .val (.int (1 : Int32)), .val (.int (0 : Int32)), .val (.int (1 : Int32)), .val (.int (3 : Int32)), .val (.int (2 : Int32)), .val (.int ((p0 &&& (2147483647 : Int32)) % (3 : Int32))), .val (.int ((p1 &&& (2147483647 : Int32)) % (3 : Int32))), .val (.int ((p2 &&& (2147483647 : Int32)) % (2 : Int32))), .val (.ref b714), .val (.ref b789), .val (.int (1 : Int32)), .val (.int (own_b (¬ ((p1 &&& (2147483647 : Int32)) % (3 : Int32)) = ((p0 &&& (2147483647 : Int32)) % (3 : Int32))))), .val (.int (1 : Int32)), .val (.int (0 : Int32)), .unset, .unset, .unset] [(.int ((p1 &&& (2147483647 : Int32)) % (3 : Int32))), (.int (0 : Int32)), (.ref b789)])) := fun tq kq => G852 tq (by
        refine XS.aload X849.here hx rfl (hb hby at_217) rfl rfl ?_
        show Steps p.tables e below (T849.setTop (mkF m 219 #[.val (.int p0), .val (.int p1), .val (.int p2), .val (.int p3), .val (.int (0 : Int32)), .val (.int (1 : Int32)), .val (.int (0 : Int32)), .val (.int (1 : Int32)), .val (.int (3 : Int32)), .val (.int (2 : Int32)), .val (.int ((p0 &&& (2147483647 : Int32)) % (3 : Int32))), .val (.int ((p1 &&& (2147483647 : Int32)) % (3 : Int32))), .val (.int ((p2 &&& (2147483647 : Int32)) % (2 : Int32))), .val (.ref b714), .val (.ref b789), .val (.int (1 : Int32)), .val (.int (own_b (¬ ((p1 &&& (2147483647 : Int32)) % (3 : Int32)) = ((p0 &&& (2147483647 : Int32)) % (3 : Int32))))), .val (.int (1 : Int32)), .val (.int (0 : Int32)), .unset, .unset, .unset] [(.ref b789)])) _
        refine XS.iload X849.here hx rfl (hb hby at_219) rfl ?_
        show Steps p.tables e below (T849.setTop (mkF m 221 #[.val (.int p0), .val (.int p1), .val (.int p2), .val (.int p3), .val (.int (0 : Int32)), .val (.int (1 : Int32)), .val (.int (0 : Int32)), .val (.int (1 : Int32)), .val (.int (3 : Int32)), .val (.int (2 : Int32)), .val (.int ((p0 &&& (2147483647 : Int32)) % (3 : Int32))), .val (.int ((p1 &&& (2147483647 : Int32)) % (3 : Int32))), .val (.int ((p2 &&& (2147483647 : Int32)) % (2 : Int32))), .val (.ref b714), .val (.ref b789), .val (.int (1 : Int32)), .val (.int (own_b (¬ ((p1 &&& (2147483647 : Int32)) % (3 : Int32)) = ((p0 &&& (2147483647 : Int32)) % (3 : Int32))))), .val (.int (1 : Int32)), .val (.int (0 : Int32)), .unset, .unset, .unset] [(.int (0 : Int32)), (.ref b789)])) _
        refine XS.iload X849.here hx rfl (hb hby at_221) rfl ?_
        show Steps p.tables e below (T849.setTop (mkF m 223 #[.val (.int p0), .val (.int p1), .val (.int p2), .val (.int p3), .val (.int (0 : Int32)), .val (.int (1 : Int32)), .val (.int (0 : Int32)), .val (.int (1 : Int32)), .val (.int (3 : Int32)), .val (.int (2 : Int32)), .val (.int ((p0 &&& (2147483647 : Int32)) % (3 : Int32))), .val (.int ((p1 &&& (2147483647 : Int32)) % (3 : Int32))), .val (.int ((p2 &&& (2147483647 : Int32)) % (2 : Int32))), .val (.ref b714), .val (.ref b789), .val (.int (1 : Int32)), .val (.int (own_b (¬ ((p1 &&& (2147483647 : Int32)) % (3 : Int32)) = ((p0 &&& (2147483647 : Int32)) % (3 : Int32))))), .val (.int (1 : Int32)), .val (.int (0 : Int32)), .unset, .unset, .unset] [(.int ((p1 &&& (2147483647 : Int32)) % (3 : Int32))), (.int (0 : Int32)), (.ref b789)])) _
        exact kq)
      have f855 := (Nat.le_trans f850 K849.1)
      have f856 := (f851.keep K849)
      obtain ⟨cq854, kq854, q854a, q854b, q854c⟩ := isOf hZ rfl f856
      obtain ⟨_, _, ⟨T854, L854, k854, n854⟩, -, X854, ⟨Lc854, hQ854, l854, y854, z854⟩, st854⟩ := X849.virtualBack hx (y := (⟨"com/example/ludarc/ludarc/engine/Domains", "mark", "(II)Z"⟩ : MethodName)) (z := (⟨"com/example/ludarc/ludarc/engine/Domains", "mark", "(II)Z"⟩ : MethodName)) hown (mvT hZ (hw _ (List.mem_of_getElem? (i := 142) rfl))) (mvT hZ (hw _ (List.mem_of_getElem? (i := 143) rfl))) (notFace_of_selects (args := #[]) (mvT hZ (hw _ (List.mem_of_getElem? (i := 145) rfl)))) (mvT hZ (hw _ (List.mem_of_getElem? (i := 145) rfl))) (mvT hZ (hw _ (List.mem_of_getElem? (i := 144) rfl))) (by decide) (backOf (W := 0) (rmM0 l Z a0 hw [] b789 mem_ pos_ siz_ mrk_ m0_ p0_ k0_ m1_ p1_ k1_ (2 : Int32) (own_sz) (own_id) (own_id) (own_up (own_up (own_up (own_zero) (((p0 &&& (2147483647 : Int32)) % (3 : Int32))).toNatClampNeg (1 : Int32)) (((p1 &&& (2147483647 : Int32)) % (3 : Int32))).toNatClampNeg (1 : Int32)) (((p0 &&& (2147483647 : Int32)) % (3 : Int32))).toNatClampNeg (1 : Int32)) (own_id) (own_id) (own_up (own_zero) (((p2 &&& (2147483647 : Int32)) % (2 : Int32))).toNatClampNeg (1 : Int32)) (1 : Int32) ((p1 &&& (2147483647 : Int32)) % (3 : Int32)) T849.heap n0 f855 ord794 dom849 hb_ (own_bt (by simp [own_up]))) hZ (hw _ (List.mem_of_getElem? (i := 146) rfl)) (hw _ (List.mem_of_getElem? (i := 87) rfl)) (by decide) (by decide)) q854a q854c (g := (mkF m 223 #[.val (.int p0), .val (.int p1), .val (.int p2), .val (.int p3), .val (.int (0 : Int32)), .val (.int (1 : Int32)), .val (.int (0 : Int32)), .val (.int (1 : Int32)), .val (.int (3 : Int32)), .val (.int (2 : Int32)), .val (.int ((p0 &&& (2147483647 : Int32)) % (3 : Int32))), .val (.int ((p1 &&& (2147483647 : Int32)) % (3 : Int32))), .val (.int ((p2 &&& (2147483647 : Int32)) % (2 : Int32))), .val (.ref b714), .val (.ref b789), .val (.int (1 : Int32)), .val (.int (own_b (¬ ((p1 &&& (2147483647 : Int32)) % (3 : Int32)) = ((p0 &&& (2147483647 : Int32)) % (3 : Int32))))), .val (.int (1 : Int32)), .val (.int (0 : Int32)), .unset, .unset, .unset] [(.int ((p1 &&& (2147483647 : Int32)) % (3 : Int32))), (.int (0 : Int32)), (.ref b789)])) rfl (by rw [hml]; rfl) (Steps.refl _) (argsL := [(.int (0 : Int32)), (.int ((p1 &&& (2147483647 : Int32)) % (3 : Int32)))]) (rest := []) (lenOf pd_11 rfl) rfl (by show 2 * 0 + _ ≤ _; exact Nat.le_of_eq rfl) (hb hby at_223) (fun _ _ => ⟨rfl, rfl, (by decide : 21 + 0 ≤ _), (by decide : 72 + 0 ≤ _)⟩)
      dsimp only [Pt.U, Pt.locs, Pt.cells, Pt.slots] at X854 l854 y854 z854 st854 hQ854
      obtain rfl : k854 = 21 := y854
      obtain rfl : n854 = 72 := z854
      obtain ⟨rfl, N854q, K854, dom854⟩ := hQ854
      have N854 : Fr n0 L854 := by rw [l854]; exact Fr.app N849 N854q
      have G857 : Go p e below A0 (T854.setTop (mkF m 226 #[.val (.int p0), .val (.int p1), .val (.int p2), .val (.int p3), .val (.int (0 : Int32)), .val (.int (1 : Int32)), .val (.int (0 : Int32)), .val (.int (1 : Int32)), .val (.int (3 : Int32)), .val (.int (2 : Int32)), .val (.int ((p0 &&& (2147483647 : Int32)) % (3 : Int32))), .val (.int ((p1 &&& (2147483647 : Int32)) % (3 : Int32))), .val (.int ((p2 &&& (2147483647 : Int32)) % (2 : Int32))), .val (.ref b714), .val (.ref b789), .val (.int (1 : Int32)), .val (.int (own_b (¬ ((p1 &&& (2147483647 : Int32)) % (3 : Int32)) = ((p0 &&& (2147483647 : Int32)) % (3 : Int32))))), .val (.int (1 : Int32)), .val (.int (0 : Int32)), .unset, .unset, .unset] [(.int (1 : Int32))])) := fun tq kq => G853 tq (st854.trans kq)
      have G858 : Go p e below A0 (T854.setTop (mkF m 234 #[.val (.int p0), .val (.int p1), .val (.int p2), .val (.int p3), .val (.int (0 : Int32)), .val (.int (1 : Int32)), .val (.int (0 : Int32)), .val (.int (1 : Int32)), .val (.int (3 : Int32)), .val (.int (2 : Int32)), .val (.int ((p0 &&& (2147483647 : Int32)) % (3 : Int32))), .val (.int ((p1 &&& (2147483647 : Int32)) % (3 : Int32))), .val (.int ((p2 &&& (2147483647 : Int32)) % (2 : Int32))), .val (.ref b714), .val (.ref b789), .val (.int (1 : Int32)), .val (.int (own_b (¬ ((p1 &&& (2147483647 : Int32)) % (3 : Int32)) = ((p0 &&& (2147483647 : Int32)) % (3 : Int32))))), .val (.int (1 : Int32)), .val (.int (0 : Int32)), .val (.int (1 : Int32)), .unset, .unset] [(.int ((p2 &&& (2147483647 : Int32)) % (2 : Int32))), (.int (1 : Int32)), (.ref b789)])) := fun tq kq => G857 tq (by
        refine XS.istore X854.here hx rfl (hb hby at_226) rfl (l' := #[.val (.int p0), .val (.int p1), .val (.int p2), .val (.int p3), .val (.int (0 : Int32)), .val (.int (1 : Int32)), .val (.int (0 : Int32)), .val (.int (1 : Int32)), .val (.int (3 : Int32)), .val (.int (2 : Int32)), .val (.int ((p0 &&& (2147483647 : Int32)) % (3 : Int32))), .val (.int ((p1 &&& (2147483647 : Int32)) % (3 : Int32))), .val (.int ((p2 &&& (2147483647 : Int32)) % (2 : Int32))), .val (.ref b714), .val (.ref b789), .val (.int (1 : Int32)), .val (.int (own_b (¬ ((p1 &&& (2147483647 : Int32)) % (3 : Int32)) = ((p0 &&& (2147483647 : Int32)) % (3 : Int32))))), .val (.int (1 : Int32)), .val (.int (0 : Int32)), .val (.int (1 : Int32)), .unset, .unset]) rfl ?_
        show Steps p.tables e below (T854.setTop (mkF m 228 #[.val (.int p0), .val (.int p1), .val (.int p2), .val (.int p3), .val (.int (0 : Int32)), .val (.int (1 : Int32)), .val (.int (0 : Int32)), .val (.int (1 : Int32)), .val (.int (3 : Int32)), .val (.int (2 : Int32)), .val (.int ((p0 &&& (2147483647 : Int32)) % (3 : Int32))), .val (.int ((p1 &&& (2147483647 : Int32)) % (3 : Int32))), .val (.int ((p2 &&& (2147483647 : Int32)) % (2 : Int32))), .val (.ref b714), .val (.ref b789), .val (.int (1 : Int32)), .val (.int (own_b (¬ ((p1 &&& (2147483647 : Int32)) % (3 : Int32)) = ((p0 &&& (2147483647 : Int32)) % (3 : Int32))))), .val (.int (1 : Int32)), .val (.int (0 : Int32)), .val (.int (1 : Int32)), .unset, .unset] [])) _
        refine XS.aload X854.here hx rfl (hb hby at_228) rfl rfl ?_
        show Steps p.tables e below (T854.setTop (mkF m 230 #[.val (.int p0), .val (.int p1), .val (.int p2), .val (.int p3), .val (.int (0 : Int32)), .val (.int (1 : Int32)), .val (.int (0 : Int32)), .val (.int (1 : Int32)), .val (.int (3 : Int32)), .val (.int (2 : Int32)), .val (.int ((p0 &&& (2147483647 : Int32)) % (3 : Int32))), .val (.int ((p1 &&& (2147483647 : Int32)) % (3 : Int32))), .val (.int ((p2 &&& (2147483647 : Int32)) % (2 : Int32))), .val (.ref b714), .val (.ref b789), .val (.int (1 : Int32)), .val (.int (own_b (¬ ((p1 &&& (2147483647 : Int32)) % (3 : Int32)) = ((p0 &&& (2147483647 : Int32)) % (3 : Int32))))), .val (.int (1 : Int32)), .val (.int (0 : Int32)), .val (.int (1 : Int32)), .unset, .unset] [(.ref b789)])) _
        refine XS.iload X854.here hx rfl (hb hby at_230) rfl ?_
        show Steps p.tables e below (T854.setTop (mkF m 232 #[.val (.int p0), .val (.int p1), .val (.int p2), .val (.int p3), .val (.int (0 : Int32)), .val (.int (1 : Int32)), .val (.int (0 : Int32)), .val (.int (1 : Int32)), .val (.int (3 : Int32)), .val (.int (2 : Int32)), .val (.int ((p0 &&& (2147483647 : Int32)) % (3 : Int32))), .val (.int ((p1 &&& (2147483647 : Int32)) % (3 : Int32))), .val (.int ((p2 &&& (2147483647 : Int32)) % (2 : Int32))), .val (.ref b714), .val (.ref b789), .val (.int (1 : Int32)), .val (.int (own_b (¬ ((p1 &&& (2147483647 : Int32)) % (3 : Int32)) = ((p0 &&& (2147483647 : Int32)) % (3 : Int32))))), .val (.int (1 : Int32)), .val (.int (0 : Int32)), .val (.int (1 : Int32)), .unset, .unset] [(.int (1 : Int32)), (.ref b789)])) _
        refine XS.iload X854.here hx rfl (hb hby at_232) rfl ?_
        show Steps p.tables e below (T854.setTop (mkF m 234 #[.val (.int p0), .val (.int p1), .val (.int p2), .val (.int p3), .val (.int (0 : Int32)), .val (.int (1 : Int32)), .val (.int (0 : Int32)), .val (.int (1 : Int32)), .val (.int (3 : Int32)), .val (.int (2 : Int32)), .val (.int ((p0 &&& (2147483647 : Int32)) % (3 : Int32))), .val (.int ((p1 &&& (2147483647 : Int32)) % (3 : Int32))), .val (.int ((p2 &&& (2147483647 : Int32)) % (2 : Int32))), .val (.ref b714), .val (.ref b789), .val (.int (1 : Int32)), .val (.int (own_b (¬ ((p1 &&& (2147483647 : Int32)) % (3 : Int32)) = ((p0 &&& (2147483647 : Int32)) % (3 : Int32))))), .val (.int (1 : Int32)), .val (.int (0 : Int32)), .val (.int (1 : Int32)), .unset, .unset] [(.int ((p2 &&& (2147483647 : Int32)) % (2 : Int32))), (.int (1 : Int32)), (.ref b789)])) _
        exact kq)
      have f860 := (Nat.le_trans f855 K854.1)
      have f861 := (f856.keep K854)
      obtain ⟨cq859, kq859, q859a, q859b, q859c⟩ := isOf hZ rfl f861
      obtain ⟨_, _, ⟨T859, L859, k859, n859⟩, -, X859, ⟨Lc859, hQ859, l859, y859, z859⟩, st859⟩ := X854.virtualBack hx (y := (⟨"com/example/ludarc/ludarc/engine/Domains", "isMarked", "(II)Z"⟩ : MethodName)) (z := (⟨"com/example/ludarc/ludarc/engine/Domains", "isMarked", "(II)Z"⟩ : MethodName)) hown (mvT hZ (hw _ (List.mem_of_getElem? (i := 147) rfl))) (mvT hZ (hw _ (List.mem_of_getElem? (i := 148) rfl))) (notFace_of_selects (args := #[]) (mvT hZ (hw _ (List.mem_of_getElem? (i := 150) rfl)))) (mvT hZ (hw _ (List.mem_of_getElem? (i := 150) rfl))) (mvT hZ (hw _ (List.mem_of_getElem? (i := 149) rfl))) (by decide) (backOf (W := 0) (rmI1 l Z a0 hw [] b789 mem_ pos_ siz_ mrk_ m0_ p0_ k0_ m1_ p1_ k1_ (2 : Int32) (own_sz) (own_id) (own_id) (own_up (own_up (own_up (own_up (own_zero) (((p0 &&& (2147483647 : Int32)) % (3 : Int32))).toNatClampNeg (1 : Int32)) (((p1 &&& (2147483647 : Int32)) % (3 : Int32))).toNatClampNeg (1 : Int32)) (((p0 &&& (2147483647 : Int32)) % (3 : Int32))).toNatClampNeg (1 : Int32)) (((p1 &&& (2147483647 : Int32)) % (3 : Int32))).toNatClampNeg (2 : Int32)) (own_id) (own_id) (own_up (own_zero) (((p2 &&& (2147483647 : Int32)) % (2 : Int32))).toNatClampNeg (1 : Int32)) (0 : Int32) ((p2 &&& (2147483647 : Int32)) % (2 : Int32)) T854.heap n0 f860 ord794 dom854 hc_ (own_b0 (by simp [own_up]))) hZ (hw _ (List.mem_of_getElem? (i := 151) rfl)) (hw _ (List.mem_of_getElem? (i := 87) rfl)) (by decide) (by decide)) q859a q859c (g := (mkF m 234 #[.val (.int p0), .val (.int p1), .val (.int p2), .val (.int p3), .val (.int (0 : Int32)), .val (.int (1 : Int32)), .val (.int (0 : Int32)), .val (.int (1 : Int32)), .val (.int (3 : Int32)), .val (.int (2 : Int32)), .val (.int ((p0 &&& (2147483647 : Int32)) % (3 : Int32))), .val (.int ((p1 &&& (2147483647 : Int32)) % (3 : Int32))), .val (.int ((p2 &&& (2147483647 : Int32)) % (2 : Int32))), .val (.ref b714), .val (.ref b789), .val (.int (1 : Int32)), .val (.int (own_b (¬ ((p1 &&& (2147483647 : Int32)) % (3 : Int32)) = ((p0 &&& (2147483647 : Int32)) % (3 : Int32))))), .val (.int (1 : Int32)), .val (.int (0 : Int32)), .val (.int (1 : Int32)), .unset, .unset] [(.int ((p2 &&& (2147483647 : Int32)) % (2 : Int32))), (.int (1 : Int32)), (.ref b789)])) rfl (by rw [hml]; rfl) (Steps.refl _) (argsL := [(.int (1 : Int32)), (.int ((p2 &&& (2147483647 : Int32)) % (2 : Int32)))]) (rest := []) (lenOf pd_11 rfl) rfl (by show 2 * 0 + _ ≤ _; exact Nat.le_of_eq rfl) (hb hby at_234) (fun _ _ => ⟨rfl, rfl, (by decide : 21 + 0 ≤ _), (by decide : 72 + 0 ≤ _)⟩)
      dsimp only [Pt.U, Pt.locs, Pt.cells, Pt.slots] at X859 l859 y859 z859 st859 hQ859
      obtain rfl : k859 = 21 := y859
      obtain rfl : n859 = 72 := z859
      obtain ⟨rfl, N859q, e859⟩ := hQ859
      have N859 : Fr n0 L859 := by rw [l859]; exact Fr.app N854 N859q
      have G862 : Go p e below A0 (T859.setTop (mkF m 237 #[.val (.int p0), .val (.int p1), .val (.int p2), .val (.int p3), .val (.int (0 : Int32)), .val (.int (1 : Int32)), .val (.int (0 : Int32)), .val (.int (1 : Int32)), .val (.int (3 : Int32)), .val (.int (2 : Int32)), .val (.int ((p0 &&& (2147483647 : Int32)) % (3 : Int32))), .val (.int ((p1 &&& (2147483647 : Int32)) % (3 : Int32))), .val (.int ((p2 &&& (2147483647 : Int32)) % (2 : Int32))), .val (.ref b714), .val (.ref b789), .val (.int (1 : Int32)), .val (.int (own_b (¬ ((p1 &&& (2147483647 : Int32)) % (3 : Int32)) = ((p0 &&& (2147483647 : Int32)) % (3 : Int32))))), .val (.int (1 : Int32)), .val (.int (0 : Int32)), .val (.int (1 : Int32)), .unset, .unset] [(.int (0 : Int32))])) := fun tq kq => G858 tq (st859.trans kq)
      have G863 : Go p e below A0 (T859.setTop (mkF m 250 #[.val (.int p0), .val (.int p1), .val (.int p2), .val (.int p3), .val (.int (0 : Int32)), .val (.int (1 : Int32)), .val (.int (0 : Int32)), .val (.int (1 : Int32)), .val (.int (3 : Int32)), .val (.int (2 : Int32)), .val (.int ((p0 &&& (2147483647 : Int32)) % (3 : Int32))), .val (.int ((p1 &&& (2147483647 : Int32)) % (3 : Int32))), .val (.int ((p2 &&& (2147483647 : Int32)) % (2 : Int32))), .val (.ref b714), .val (.ref b789), .val (.int (1 : Int32)), .val (.int (own_b (¬ ((p1 &&& (2147483647 : Int32)) % (3 : Int32)) = ((p0 &&& (2147483647 : Int32)) % (3 : Int32))))), .val (.int (1 : Int32)), .val (.int (0 : Int32)), .val (.int (1 : Int32)), .val (.int (0 : Int32)), .val (.int (1 : Int32))] [(.int (own_b (¬ ((p1 &&& (2147483647 : Int32)) % (3 : Int32)) = ((p0 &&& (2147483647 : Int32)) % (3 : Int32)))))])) := fun tq kq => G862 tq (by
        refine XS.istore X859.here hx rfl (hb hby at_237) rfl (l' := #[.val (.int p0), .val (.int p1), .val (.int p2), .val (.int p3), .val (.int (0 : Int32)), .val (.int (1 : Int32)), .val (.int (0 : Int32)), .val (.int (1 : Int32)), .val (.int (3 : Int32)), .val (.int (2 : Int32)), .val (.int ((p0 &&& (2147483647 : Int32)) % (3 : Int32))), .val (.int ((p1 &&& (2147483647 : Int32)) % (3 : Int32))), .val (.int ((p2 &&& (2147483647 : Int32)) % (2 : Int32))), .val (.ref b714), .val (.ref b789), .val (.int (1 : Int32)), .val (.int (own_b (¬ ((p1 &&& (2147483647 : Int32)) % (3 : Int32)) = ((p0 &&& (2147483647 : Int32)) % (3 : Int32))))), .val (.int (1 : Int32)), .val (.int (0 : Int32)), .val (.int (1 : Int32)), .val (.int (0 : Int32)), .unset]) rfl ?_
        show Steps p.tables e below (T859.setTop (mkF m 239 #[.val (.int p0), .val (.int p1), .val (.int p2), .val (.int p3), .val (.int (0 : Int32)), .val (.int (1 : Int32)), .val (.int (0 : Int32)), .val (.int (1 : Int32)), .val (.int (3 : Int32)), .val (.int (2 : Int32)), .val (.int ((p0 &&& (2147483647 : Int32)) % (3 : Int32))), .val (.int ((p1 &&& (2147483647 : Int32)) % (3 : Int32))), .val (.int ((p2 &&& (2147483647 : Int32)) % (2 : Int32))), .val (.ref b714), .val (.ref b789), .val (.int (1 : Int32)), .val (.int (own_b (¬ ((p1 &&& (2147483647 : Int32)) % (3 : Int32)) = ((p0 &&& (2147483647 : Int32)) % (3 : Int32))))), .val (.int (1 : Int32)), .val (.int (0 : Int32)), .val (.int (1 : Int32)), .val (.int (0 : Int32)), .unset] [])) _
        refine XS.iload X859.here hx rfl (hb hby at_239) rfl ?_
        show Steps p.tables e below (T859.setTop (mkF m 241 #[.val (.int p0), .val (.int p1), .val (.int p2), .val (.int p3), .val (.int (0 : Int32)), .val (.int (1 : Int32)), .val (.int (0 : Int32)), .val (.int (1 : Int32)), .val (.int (3 : Int32)), .val (.int (2 : Int32)), .val (.int ((p0 &&& (2147483647 : Int32)) % (3 : Int32))), .val (.int ((p1 &&& (2147483647 : Int32)) % (3 : Int32))), .val (.int ((p2 &&& (2147483647 : Int32)) % (2 : Int32))), .val (.ref b714), .val (.ref b789), .val (.int (1 : Int32)), .val (.int (own_b (¬ ((p1 &&& (2147483647 : Int32)) % (3 : Int32)) = ((p0 &&& (2147483647 : Int32)) % (3 : Int32))))), .val (.int (1 : Int32)), .val (.int (0 : Int32)), .val (.int (1 : Int32)), .val (.int (0 : Int32)), .unset] [(.int (1 : Int32))])) _
        refine XS.istore X859.here hx rfl (hb hby at_241) rfl (l' := #[.val (.int p0), .val (.int p1), .val (.int p2), .val (.int p3), .val (.int (0 : Int32)), .val (.int (1 : Int32)), .val (.int (0 : Int32)), .val (.int (1 : Int32)), .val (.int (3 : Int32)), .val (.int (2 : Int32)), .val (.int ((p0 &&& (2147483647 : Int32)) % (3 : Int32))), .val (.int ((p1 &&& (2147483647 : Int32)) % (3 : Int32))), .val (.int ((p2 &&& (2147483647 : Int32)) % (2 : Int32))), .val (.ref b714), .val (.ref b789), .val (.int (1 : Int32)), .val (.int (own_b (¬ ((p1 &&& (2147483647 : Int32)) % (3 : Int32)) = ((p0 &&& (2147483647 : Int32)) % (3 : Int32))))), .val (.int (1 : Int32)), .val (.int (0 : Int32)), .val (.int (1 : Int32)), .val (.int (0 : Int32)), .val (.int (1 : Int32))]) rfl ?_
        show Steps p.tables e below (T859.setTop (mkF m 243 #[.val (.int p0), .val (.int p1), .val (.int p2), .val (.int p3), .val (.int (0 : Int32)), .val (.int (1 : Int32)), .val (.int (0 : Int32)), .val (.int (1 : Int32)), .val (.int (3 : Int32)), .val (.int (2 : Int32)), .val (.int ((p0 &&& (2147483647 : Int32)) % (3 : Int32))), .val (.int ((p1 &&& (2147483647 : Int32)) % (3 : Int32))), .val (.int ((p2 &&& (2147483647 : Int32)) % (2 : Int32))), .val (.ref b714), .val (.ref b789), .val (.int (1 : Int32)), .val (.int (own_b (¬ ((p1 &&& (2147483647 : Int32)) % (3 : Int32)) = ((p0 &&& (2147483647 : Int32)) % (3 : Int32))))), .val (.int (1 : Int32)), .val (.int (0 : Int32)), .val (.int (1 : Int32)), .val (.int (0 : Int32)), .val (.int (1 : Int32))] [])) _
        refine XS.iload X859.here hx rfl (hb hby at_243) rfl ?_
        show Steps p.tables e below (T859.setTop (mkF m 245 #[.val (.int p0), .val (.int p1), .val (.int p2), .val (.int p3), .val (.int (0 : Int32)), .val (.int (1 : Int32)), .val (.int (0 : Int32)), .val (.int (1 : Int32)), .val (.int (3 : Int32)), .val (.int (2 : Int32)), .val (.int ((p0 &&& (2147483647 : Int32)) % (3 : Int32))), .val (.int ((p1 &&& (2147483647 : Int32)) % (3 : Int32))), .val (.int ((p2 &&& (2147483647 : Int32)) % (2 : Int32))), .val (.ref b714), .val (.ref b789), .val (.int (1 : Int32)), .val (.int (own_b (¬ ((p1 &&& (2147483647 : Int32)) % (3 : Int32)) = ((p0 &&& (2147483647 : Int32)) % (3 : Int32))))), .val (.int (1 : Int32)), .val (.int (0 : Int32)), .val (.int (1 : Int32)), .val (.int (0 : Int32)), .val (.int (1 : Int32))] [(.int (1 : Int32))])) _
        refine XS.ifNo X859.here hx rfl (hb hby at_245) rfl (by decide) ?_
        show Steps p.tables e below (T859.setTop (mkF m 248 #[.val (.int p0), .val (.int p1), .val (.int p2), .val (.int p3), .val (.int (0 : Int32)), .val (.int (1 : Int32)), .val (.int (0 : Int32)), .val (.int (1 : Int32)), .val (.int (3 : Int32)), .val (.int (2 : Int32)), .val (.int ((p0 &&& (2147483647 : Int32)) % (3 : Int32))), .val (.int ((p1 &&& (2147483647 : Int32)) % (3 : Int32))), .val (.int ((p2 &&& (2147483647 : Int32)) % (2 : Int32))), .val (.ref b714), .val (.ref b789), .val (.int (1 : Int32)), .val (.int (own_b (¬ ((p1 &&& (2147483647 : Int32)) % (3 : Int32)) = ((p0 &&& (2147483647 : Int32)) % (3 : Int32))))), .val (.int (1 : Int32)), .val (.int (0 : Int32)), .val (.int (1 : Int32)), .val (.int (0 : Int32)), .val (.int (1 : Int32))] [])) _
        refine XS.iload X859.here hx rfl (hb hby at_248) rfl ?_
        show Steps p.tables e below (T859.setTop (mkF m 250 #[.val (.int p0), .val (.int p1), .val (.int p2), .val (.int p3), .val (.int (0 : Int32)), .val (.int (1 : Int32)), .val (.int (0 : Int32)), .val (.int (1 : Int32)), .val (.int (3 : Int32)), .val (.int (2 : Int32)), .val (.int ((p0 &&& (2147483647 : Int32)) % (3 : Int32))), .val (.int ((p1 &&& (2147483647 : Int32)) % (3 : Int32))), .val (.int ((p2 &&& (2147483647 : Int32)) % (2 : Int32))), .val (.ref b714), .val (.ref b789), .val (.int (1 : Int32)), .val (.int (own_b (¬ ((p1 &&& (2147483647 : Int32)) % (3 : Int32)) = ((p0 &&& (2147483647 : Int32)) % (3 : Int32))))), .val (.int (1 : Int32)), .val (.int (0 : Int32)), .val (.int (1 : Int32)), .val (.int (0 : Int32)), .val (.int (1 : Int32))] [(.int (own_b (¬ ((p1 &&& (2147483647 : Int32)) % (3 : Int32)) = ((p0 &&& (2147483647 : Int32)) % (3 : Int32)))))])) _
        exact kq)
      obtain ⟨ne_, hG864, G864⟩ : ∃ (ne_ : Int32), (ne_ = own_b (¬ ((p1 &&& (2147483647 : Int32)) % (3 : Int32)) = ((p0 &&& (2147483647 : Int32)) % (3 : Int32)))) ∧ Go p e below A0 (T859.setTop (mkF m 262 #[.val (.int p0), .val (.int p1), .val (.int p2), .val (.int p3), .val (.int (0 : Int32)), .val (.int (1 : Int32)), .val (.int (0 : Int32)), .val (.int (1 : Int32)), .val (.int (3 : Int32)), .val (.int (2 : Int32)), .val (.int ((p0 &&& (2147483647 : Int32)) % (3 : Int32))), .val (.int ((p1 &&& (2147483647 : Int32)) % (3 : Int32))), .val (.int ((p2 &&& (2147483647 : Int32)) % (2 : Int32))), .val (.ref b714), .val (.ref b789), .val (.int (1 : Int32)), .val (.int (own_b (¬ ((p1 &&& (2147483647 : Int32)) % (3 : Int32)) = ((p0 &&& (2147483647 : Int32)) % (3 : Int32))))), .val (.int (1 : Int32)), .val (.int (0 : Int32)), .val (.int (1 : Int32)), .val (.int (0 : Int32)), .val (.int (1 : Int32))] [(.int ne_), (.int (own_b (¬ ((p1 &&& (2147483647 : Int32)) % (3 : Int32)) = ((p0 &&& (2147483647 : Int32)) % (3 : Int32)))))])) := by
        have G865 : Go p e below A0 (T859.setTop (mkF m 254 #[.val (.int p0), .val (.int p1), .val (.int p2), .val (.int p3), .val (.int (0 : Int32)), .val (.int (1 : Int32)), .val (.int (0 : Int32)), .val (.int (1 : Int32)), .val (.int (3 : Int32)), .val (.int (2 : Int32)), .val (.int ((p0 &&& (2147483647 : Int32)) % (3 : Int32))), .val (.int ((p1 &&& (2147483647 : Int32)) % (3 : Int32))), .val (.int ((p2 &&& (2147483647 : Int32)) % (2 : Int32))), .val (.ref b714), .val (.ref b789), .val (.int (1 : Int32)), .val (.int (own_b (¬ ((p1 &&& (2147483647 : Int32)) % (3 : Int32)) = ((p0 &&& (2147483647 : Int32)) % (3 : Int32))))), .val (.int (1 : Int32)), .val (.int (0 : Int32)), .val (.int (1 : Int32)), .val (.int (0 : Int32)), .val (.int (1 : Int32))] [(.int ((p0 &&& (2147483647 : Int32)) % (3 : Int32))), (.int ((p1 &&& (2147483647 : Int32)) % (3 : Int32))), (.int (own_b (¬ ((p1 &&& (2147483647 : Int32)) % (3 : Int32)) = ((p0 &&& (2147483647 : Int32)) % (3 : Int32)))))])) := fun tq kq => G863 tq (by
          refine XS.iload X859.here hx rfl (hb hby at_250) rfl ?_
          show Steps p.tables e below (T859.setTop (mkF m 252 #[.val (.int p0), .val (.int p1), .val (.int p2), .val (.int p3), .val (.int (0 : Int32)), .val (.int (1 : Int32)), .val (.int (0 : Int32)), .val (.int (1 : Int32)), .val (.int (3 : Int32)), .val (.int (2 : Int32)), .val (.int ((p0 &&& (2147483647 : Int32)) % (3 : Int32))), .val (.int ((p1 &&& (2147483647 : Int32)) % (3 : Int32))), .val (.int ((p2 &&& (2147483647 : Int32)) % (2 : Int32))), .val (.ref b714), .val (.ref b789), .val (.int (1 : Int32)), .val (.int (own_b (¬ ((p1 &&& (2147483647 : Int32)) % (3 : Int32)) = ((p0 &&& (2147483647 : Int32)) % (3 : Int32))))), .val (.int (1 : Int32)), .val (.int (0 : Int32)), .val (.int (1 : Int32)), .val (.int (0 : Int32)), .val (.int (1 : Int32))] [(.int ((p1 &&& (2147483647 : Int32)) % (3 : Int32))), (.int (own_b (¬ ((p1 &&& (2147483647 : Int32)) % (3 : Int32)) = ((p0 &&& (2147483647 : Int32)) % (3 : Int32)))))])) _
          refine XS.iload X859.here hx rfl (hb hby at_252) rfl ?_
          show Steps p.tables e below (T859.setTop (mkF m 254 #[.val (.int p0), .val (.int p1), .val (.int p2), .val (.int p3), .val (.int (0 : Int32)), .val (.int (1 : Int32)), .val (.int (0 : Int32)), .val (.int (1 : Int32)), .val (.int (3 : Int32)), .val (.int (2 : Int32)), .val (.int ((p0 &&& (2147483647 : Int32)) % (3 : Int32))), .val (.int ((p1 &&& (2147483647 : Int32)) % (3 : Int32))), .val (.int ((p2 &&& (2147483647 : Int32)) % (2 : Int32))), .val (.ref b714), .val (.ref b789), .val (.int (1 : Int32)), .val (.int (own_b (¬ ((p1 &&& (2147483647 : Int32)) % (3 : Int32)) = ((p0 &&& (2147483647 : Int32)) % (3 : Int32))))), .val (.int (1 : Int32)), .val (.int (0 : Int32)), .val (.int (1 : Int32)), .val (.int (0 : Int32)), .val (.int (1 : Int32))] [(.int ((p0 &&& (2147483647 : Int32)) % (3 : Int32))), (.int ((p1 &&& (2147483647 : Int32)) % (3 : Int32))), (.int (own_b (¬ ((p1 &&& (2147483647 : Int32)) % (3 : Int32)) = ((p0 &&& (2147483647 : Int32)) % (3 : Int32)))))])) _
          exact kq)
        by_cases hc866 : ((p1 &&& (2147483647 : Int32)) % (3 : Int32)) = ((p0 &&& (2147483647 : Int32)) % (3 : Int32))
        · have G867 : Go p e below A0 (T859.setTop (mkF m 262 #[.val (.int p0), .val (.int p1), .val (.int p2), .val (.int p3), .val (.int (0 : Int32)), .val (.int (1 : Int32)), .val (.int (0 : Int32)), .val (.int (1 : Int32)), .val (.int (3 : Int32)), .val (.int (2 : Int32)), .val (.int ((p0 &&& (2147483647 : Int32)) % (3 : Int32))), .val (.int ((p1 &&& (2147483647 : Int32)) % (3 : Int32))), .val (.int ((p2 &&& (2147483647 : Int32)) % (2 : Int32))), .val (.ref b714), .val (.ref b789), .val (.int (1 : Int32)), .val (.int (own_b (¬ ((p1 &&& (2147483647 : Int32)) % (3 : Int32)) = ((p0 &&& (2147483647 : Int32)) % (3 : Int32))))), .val (.int (1 : Int32)), .val (.int (0 : Int32)), .val (.int (1 : Int32)), .val (.int (0 : Int32)), .val (.int (1 : Int32))] [(.int (0 : Int32)), (.int (own_b (¬ ((p1 &&& (2147483647 : Int32)) % (3 : Int32)) = ((p0 &&& (2147483647 : Int32)) % (3 : Int32)))))])) := fun tq kq => G865 tq (by
            refine XS.icmpYes X859.here hx rfl (pc0 := 254) (pc' := 261) rfl (hb hby at_254) rfl (teq hc866).1 (by decide) (by decide) ?_
            show Steps p.tables e below (T859.setTop (mkF m 261 #[.val (.int p0), .val (.int p1), .val (.int p2), .val (.int p3), .val (.int (0 : Int32)), .val (.int (1 : Int32)), .val (.int (0 : Int32)), .val (.int (1 : Int32)), .val (.int (3 : Int32)), .val (.int (2 : Int32)), .val (.int ((p0 &&& (2147483647 : Int32)) % (3 : Int32))), .val (.int ((p1 &&& (2147483647 : Int32)) % (3 : Int32))), .val (.int ((p2 &&& (2147483647 : Int32)) % (2 : Int32))), .val (.ref b714), .val (.ref b789), .val (.int (1 : Int32)), .val (.int (own_b (¬ ((p1 &&& (2147483647 : Int32)) % (3 : Int32)) = ((p0 &&& (2147483647 : Int32)) % (3 : Int32))))), .val (.int (1 : Int32)), .val (.int (0 : Int32)), .val (.int (1 : Int32)), .val (.int (0 : Int32)), .val (.int (1 : Int32))] [(.int (own_b (¬ ((p1 &&& (2147483647 : Int32)) % (3 : Int32)) = ((p0 &&& (2147483647 : Int32)) % (3 : Int32)))))])) _
            refine XS.iconst X859.here hx rfl (hb hby at_261) ?_
            show Steps p.tables e below (T859.setTop (mkF m 262 #[.val (.int p0), .val (.int p1), .val (.int p2), .val (.int p3), .val (.int (0 : Int32)), .val (.int (1 : Int32)), .val (.int (0 : Int32)), .val (.int (1 : Int32)), .val (.int (3 : Int32)), .val (.int (2 : Int32)), .val (.int ((p0 &&& (2147483647 : Int32)) % (3 : Int32))), .val (.int ((p1 &&& (2147483647 : Int32)) % (3 : Int32))), .val (.int ((p2 &&& (2147483647 : Int32)) % (2 : Int32))), .val (.ref b714), .val (.ref b789), .val (.int (1 : Int32)), .val (.int (own_b (¬ ((p1 &&& (2147483647 : Int32)) % (3 : Int32)) = ((p0 &&& (2147483647 : Int32)) % (3 : Int32))))), .val (.int (1 : Int32)), .val (.int (0 : Int32)), .val (.int (1 : Int32)), .val (.int (0 : Int32)), .val (.int (1 : Int32))] [(.int (0 : Int32)), (.int (own_b (¬ ((p1 &&& (2147483647 : Int32)) % (3 : Int32)) = ((p0 &&& (2147483647 : Int32)) % (3 : Int32)))))])) _
            exact kq)
          exact ⟨(0 : Int32), (by simp only [own_b, hc866, not_true_eq_false, not_false_eq_true, if_true, if_false, or_true, true_or, or_false, false_or, and_true, true_and, and_false, false_and, and_self, or_self]), G867⟩
        · have G868 : Go p e below A0 (T859.setTop (mkF m 262 #[.val (.int p0), .val (.int p1), .val (.int p2), .val (.int p3), .val (.int (0 : Int32)), .val (.int (1 : Int32)), .val (.int (0 : Int32)), .val (.int (1 : Int32)), .val (.int (3 : Int32)), .val (.int (2 : Int32)), .val (.int ((p0 &&& (2147483647 : Int32)) % (3 : Int32))), .val (.int ((p1 &&& (2147483647 : Int32)) % (3 : Int32))), .val (.int ((p2 &&& (2147483647 : Int32)) % (2 : Int32))), .val (.ref b714), .val (.ref b789), .val (.int (1 : Int32)), .val (.int (own_b (¬ ((p1 &&& (2147483647 : Int32)) % (3 : Int32)) = ((p0 &&& (2147483647 : Int32)) % (3 : Int32))))), .val (.int (1 : Int32)), .val (.int (0 : Int32)), .val (.int (1 : Int32)), .val (.int (0 : Int32)), .val (.int (1 : Int32))] [(.int (1 : Int32)), (.int (own_b (¬ ((p1 &&& (2147483647 : Int32)) % (3 : Int32)) = ((p0 &&& (2147483647 : Int32)) % (3 : Int32)))))])) := fun tq kq => G865 tq (by
            refine XS.icmpNo X859.here hx rfl (hb hby at_254) rfl (feq hc866).1 ?_
            show Steps p.tables e below (T859.setTop (mkF m 257 #[.val (.int p0), .val (.int p1), .val (.int p2), .val (.int p3), .val (.int (0 : Int32)), .val (.int (1 : Int32)), .val (.int (0 : Int32)), .val (.int (1 : Int32)), .val (.int (3 : Int32)), .val (.int (2 : Int32)), .val (.int ((p0 &&& (2147483647 : Int32)) % (3 : Int32))), .val (.int ((p1 &&& (2147483647 : Int32)) % (3 : Int32))), .val (.int ((p2 &&& (2147483647 : Int32)) % (2 : Int32))), .val (.ref b714), .val (.ref b789), .val (.int (1 : Int32)), .val (.int (own_b (¬ ((p1 &&& (2147483647 : Int32)) % (3 : Int32)) = ((p0 &&& (2147483647 : Int32)) % (3 : Int32))))), .val (.int (1 : Int32)), .val (.int (0 : Int32)), .val (.int (1 : Int32)), .val (.int (0 : Int32)), .val (.int (1 : Int32))] [(.int (own_b (¬ ((p1 &&& (2147483647 : Int32)) % (3 : Int32)) = ((p0 &&& (2147483647 : Int32)) % (3 : Int32)))))])) _
            refine XS.iconst X859.here hx rfl (hb hby at_257) ?_
            show Steps p.tables e below (T859.setTop (mkF m 258 #[.val (.int p0), .val (.int p1), .val (.int p2), .val (.int p3), .val (.int (0 : Int32)), .val (.int (1 : Int32)), .val (.int (0 : Int32)), .val (.int (1 : Int32)), .val (.int (3 : Int32)), .val (.int (2 : Int32)), .val (.int ((p0 &&& (2147483647 : Int32)) % (3 : Int32))), .val (.int ((p1 &&& (2147483647 : Int32)) % (3 : Int32))), .val (.int ((p2 &&& (2147483647 : Int32)) % (2 : Int32))), .val (.ref b714), .val (.ref b789), .val (.int (1 : Int32)), .val (.int (own_b (¬ ((p1 &&& (2147483647 : Int32)) % (3 : Int32)) = ((p0 &&& (2147483647 : Int32)) % (3 : Int32))))), .val (.int (1 : Int32)), .val (.int (0 : Int32)), .val (.int (1 : Int32)), .val (.int (0 : Int32)), .val (.int (1 : Int32))] [(.int (1 : Int32)), (.int (own_b (¬ ((p1 &&& (2147483647 : Int32)) % (3 : Int32)) = ((p0 &&& (2147483647 : Int32)) % (3 : Int32)))))])) _
            refine XS.goto X859.here hx rfl (pc0 := 258) (pc' := 262) rfl (hb hby at_258) (by decide) (by decide) ?_
            show Steps p.tables e below (T859.setTop (mkF m 262 #[.val (.int p0), .val (.int p1), .val (.int p2), .val (.int p3), .val (.int (0 : Int32)), .val (.int (1 : Int32)), .val (.int (0 : Int32)), .val (.int (1 : Int32)), .val (.int (3 : Int32)), .val (.int (2 : Int32)), .val (.int ((p0 &&& (2147483647 : Int32)) % (3 : Int32))), .val (.int ((p1 &&& (2147483647 : Int32)) % (3 : Int32))), .val (.int ((p2 &&& (2147483647 : Int32)) % (2 : Int32))), .val (.ref b714), .val (.ref b789), .val (.int (1 : Int32)), .val (.int (own_b (¬ ((p1 &&& (2147483647 : Int32)) % (3 : Int32)) = ((p0 &&& (2147483647 : Int32)) % (3 : Int32))))), .val (.int (1 : Int32)), .val (.int (0 : Int32)), .val (.int (1 : Int32)), .val (.int (0 : Int32)), .val (.int (1 : Int32))] [(.int (1 : Int32)), (.int (own_b (¬ ((p1 &&& (2147483647 : Int32)) % (3 : Int32)) = ((p0 &&& (2147483647 : Int32)) % (3 : Int32)))))])) _
            exact kq)
          exact ⟨(1 : Int32), (by simp only [own_b, hc866, not_true_eq_false, not_false_eq_true, if_true, if_false, or_true, true_or, or_false, false_or, and_true, true_and, and_false, false_and, and_self, or_self]), G868⟩
      subst hG864
      have G869 : Go p e below A0 (T859.setTop (mkF m 354 #[.val (.int p0), .val (.int p1), .val (.int p2), .val (.int p3), .val (.int (0 : Int32)), .val (.int (1 : Int32)), .val (.int (0 : Int32)), .val (.int (1 : Int32)), .val (.int (3 : Int32)), .val (.int (2 : Int32)), .val (.int ((p0 &&& (2147483647 : Int32)) % (3 : Int32))), .val (.int ((p1 &&& (2147483647 : Int32)) % (3 : Int32))), .val (.int ((p2 &&& (2147483647 : Int32)) % (2 : Int32))), .val (.ref b714), .val (.ref b789), .val (.int (1 : Int32)), .val (.int (own_b (¬ ((p1 &&& (2147483647 : Int32)) % (3 : Int32)) = ((p0 &&& (2147483647 : Int32)) % (3 : Int32))))), .val (.int (1 : Int32)), .val (.int (0 : Int32)), .val (.int (1 : Int32)), .val (.int (0 : Int32)), .val (.int (1 : Int32))] [(.int (1 : Int32))])) := fun tq kq => G864 tq (by
        refine XS.icmpNo X859.here hx rfl (hb hby at_262) rfl (teq (rfl : (own_b (¬ ((p1 &&& (2147483647 : Int32)) % (3 : Int32)) = ((p0 &&& (2147483647 : Int32)) % (3 : Int32)))) = (own_b (¬ ((p1 &&& (2147483647 : Int32)) % (3 : Int32)) = ((p0 &&& (2147483647 : Int32)) % (3 : Int32)))))).2 ?_
        show Steps p.tables e below (T859.setTop (mkF m 265 #[.val (.int p0), .val (.int p1), .val (.int p2), .val (.int p3), .val (.int (0 : Int32)), .val (.int (1 : Int32)), .val (.int (0 : Int32)), .val (.int (1 : Int32)), .val (.int (3 : Int32)), .val (.int (2 : Int32)), .val (.int ((p0 &&& (2147483647 : Int32)) % (3 : Int32))), .val (.int ((p1 &&& (2147483647 : Int32)) % (3 : Int32))), .val (.int ((p2 &&& (2147483647 : Int32)) % (2 : Int32))), .val (.ref b714), .val (.ref b789), .val (.int (1 : Int32)), .val (.int (own_b (¬ ((p1 &&& (2147483647 : Int32)) % (3 : Int32)) = ((p0 &&& (2147483647 : Int32)) % (3 : Int32))))), .val (.int (1 : Int32)), .val (.int (0 : Int32)), .val (.int (1 : Int32)), .val (.int (0 : Int32)), .val (.int (1 : Int32))] [])) _
        refine XS.iconst X859.here hx rfl (hb hby at_265) ?_
        show Steps p.tables e below (T859.setTop (mkF m 266 #[.val (.int p0), .val (.int p1), .val (.int p2), .val (.int p3), .val (.int (0 : Int32)), .val (.int (1 : Int32)), .val (.int (0 : Int32)), .val (.int (1 : Int32)), .val (.int (3 : Int32)), .val (.int (2 : Int32)), .val (.int ((p0 &&& (2147483647 : Int32)) % (3 : Int32))), .val (.int ((p1 &&& (2147483647 : Int32)) % (3 : Int32))), .val (.int ((p2 &&& (2147483647 : Int32)) % (2 : Int32))), .val (.ref b714), .val (.ref b789), .val (.int (1 : Int32)), .val (.int (own_b (¬ ((p1 &&& (2147483647 : Int32)) % (3 : Int32)) = ((p0 &&& (2147483647 : Int32)) % (3 : Int32))))), .val (.int (1 : Int32)), .val (.int (0 : Int32)), .val (.int (1 : Int32)), .val (.int (0 : Int32)), .val (.int (1 : Int32))] [(.int (1 : Int32))])) _
        refine XS.goto X859.here hx rfl (pc0 := 266) (pc' := 270) rfl (hb hby at_266) (by decide) (by decide) ?_
        show Steps p.tables e below (T859.setTop (mkF m 270 #[.val (.int p0), .val (.int p1), .val (.int p2), .val (.int p3), .val (.int (0 : Int32)), .val (.int (1 : Int32)), .val (.int (0 : Int32)), .val (.int (1 : Int32)), .val (.int (3 : Int32)), .val (.int (2 : Int32)), .val (.int ((p0 &&& (2147483647 : Int32)) % (3 : Int32))), .val (.int ((p1 &&& (2147483647 : Int32)) % (3 : Int32))), .val (.int ((p2 &&& (2147483647 : Int32)) % (2 : Int32))), .val (.ref b714), .val (.ref b789), .val (.int (1 : Int32)), .val (.int (own_b (¬ ((p1 &&& (2147483647 : Int32)) % (3 : Int32)) = ((p0 &&& (2147483647 : Int32)) % (3 : Int32))))), .val (.int (1 : Int32)), .val (.int (0 : Int32)), .val (.int (1 : Int32)), .val (.int (0 : Int32)), .val (.int (1 : Int32))] [(.int (1 : Int32))])) _
        refine XS.istore X859.here hx rfl (hb hby at_270) rfl (l' := #[.val (.int p0), .val (.int p1), .val (.int p2), .val (.int p3), .val (.int (0 : Int32)), .val (.int (1 : Int32)), .val (.int (0 : Int32)), .val (.int (1 : Int32)), .val (.int (3 : Int32)), .val (.int (2 : Int32)), .val (.int ((p0 &&& (2147483647 : Int32)) % (3 : Int32))), .val (.int ((p1 &&& (2147483647 : Int32)) % (3 : Int32))), .val (.int ((p2 &&& (2147483647 : Int32)) % (2 : Int32))), .val (.ref b714), .val (.ref b789), .val (.int (1 : Int32)), .val (.int (own_b (¬ ((p1 &&& (2147483647 : Int32)) % (3 : Int32)) = ((p0 &&& (2147483647 : Int32)) % (3 : Int32))))), .val (.int (1 : Int32)), .val (.int (0 : Int32)), .val (.int (1 : Int32)), .val (.int (0 : Int32)), .val (.int (1 : Int32))]) rfl ?_
        show Steps p.tables e below (T859.setTop (mkF m 272 #[.val (.int p0), .val (.int p1), .val (.int p2), .val (.int p3), .val (.int (0 : Int32)), .val (.int (1 : Int32)), .val (.int (0 : Int32)), .val (.int (1 : Int32)), .val (.int (3 : Int32)), .val (.int (2 : Int32)), .val (.int ((p0 &&& (2147483647 : Int32)) % (3 : Int32))), .val (.int ((p1 &&& (2147483647 : Int32)) % (3 : Int32))), .val (.int ((p2 &&& (2147483647 : Int32)) % (2 : Int32))), .val (.ref b714), .val (.ref b789), .val (.int (1 : Int32)), .val (.int (own_b (¬ ((p1 &&& (2147483647 : Int32)) % (3 : Int32)) = ((p0 &&& (2147483647 : Int32)) % (3 : Int32))))), .val (.int (1 : Int32)), .val (.int (0 : Int32)), .val (.int (1 : Int32)), .val (.int (0 : Int32)), .val (.int (1 : Int32))] [])) _
        refine XS.iload X859.here hx rfl (hb hby at_272) rfl ?_
        show Steps p.tables e below (T859.setTop (mkF m 274 #[.val (.int p0), .val (.int p1), .val (.int p2), .val (.int p3), .val (.int (0 : Int32)), .val (.int (1 : Int32)), .val (.int (0 : Int32)), .val (.int (1 : Int32)), .val (.int (3 : Int32)), .val (.int (2 : Int32)), .val (.int ((p0 &&& (2147483647 : Int32)) % (3 : Int32))), .val (.int ((p1 &&& (2147483647 : Int32)) % (3 : Int32))), .val (.int ((p2 &&& (2147483647 : Int32)) % (2 : Int32))), .val (.ref b714), .val (.ref b789), .val (.int (1 : Int32)), .val (.int (own_b (¬ ((p1 &&& (2147483647 : Int32)) % (3 : Int32)) = ((p0 &&& (2147483647 : Int32)) % (3 : Int32))))), .val (.int (1 : Int32)), .val (.int (0 : Int32)), .val (.int (1 : Int32)), .val (.int (0 : Int32)), .val (.int (1 : Int32))] [(.int (1 : Int32))])) _
        refine XS.ifNo X859.here hx rfl (hb hby at_274) rfl (by decide) ?_
        show Steps p.tables e below (T859.setTop (mkF m 277 #[.val (.int p0), .val (.int p1), .val (.int p2), .val (.int p3), .val (.int (0 : Int32)), .val (.int (1 : Int32)), .val (.int (0 : Int32)), .val (.int (1 : Int32)), .val (.int (3 : Int32)), .val (.int (2 : Int32)), .val (.int ((p0 &&& (2147483647 : Int32)) % (3 : Int32))), .val (.int ((p1 &&& (2147483647 : Int32)) % (3 : Int32))), .val (.int ((p2 &&& (2147483647 : Int32)) % (2 : Int32))), .val (.ref b714), .val (.ref b789), .val (.int (1 : Int32)), .val (.int (own_b (¬ ((p1 &&& (2147483647 : Int32)) % (3 : Int32)) = ((p0 &&& (2147483647 : Int32)) % (3 : Int32))))), .val (.int (1 : Int32)), .val (.int (0 : Int32)), .val (.int (1 : Int32)), .val (.int (0 : Int32)), .val (.int (1 : Int32))] [])) _
        refine XS.iload X859.here hx rfl (hb hby at_277) rfl ?_
        show Steps p.tables e below (T859.setTop (mkF m 279 #[.val (.int p0), .val (.int p1), .val (.int p2), .val (.int p3), .val (.int (0 : Int32)), .val (.int (1 : Int32)), .val (.int (0 : Int32)), .val (.int (1 : Int32)), .val (.int (3 : Int32)), .val (.int (2 : Int32)), .val (.int ((p0 &&& (2147483647 : Int32)) % (3 : Int32))), .val (.int ((p1 &&& (2147483647 : Int32)) % (3 : Int32))), .val (.int ((p2 &&& (2147483647 : Int32)) % (2 : Int32))), .val (.ref b714), .val (.ref b789), .val (.int (1 : Int32)), .val (.int (own_b (¬ ((p1 &&& (2147483647 : Int32)) % (3 : Int32)) = ((p0 &&& (2147483647 : Int32)) % (3 : Int32))))), .val (.int (1 : Int32)), .val (.int (0 : Int32)), .val (.int (1 : Int32)), .val (.int (0 : Int32)), .val (.int (1 : Int32))] [(.int (1 : Int32))])) _
        refine XS.ifNo X859.here hx rfl (hb hby at_279) rfl (by decide) ?_
        show Steps p.tables e below (T859.setTop (mkF m 282 #[.val (.int p0), .val (.int p1), .val (.int p2), .val (.int p3), .val (.int (0 : Int32)), .val (.int (1 : Int32)), .val (.int (0 : Int32)), .val (.int (1 : Int32)), .val (.int (3 : Int32)), .val (.int (2 : Int32)), .val (.int ((p0 &&& (2147483647 : Int32)) % (3 : Int32))), .val (.int ((p1 &&& (2147483647 : Int32)) % (3 : Int32))), .val (.int ((p2 &&& (2147483647 : Int32)) % (2 : Int32))), .val (.ref b714), .val (.ref b789), .val (.int (1 : Int32)), .val (.int (own_b (¬ ((p1 &&& (2147483647 : Int32)) % (3 : Int32)) = ((p0 &&& (2147483647 : Int32)) % (3 : Int32))))), .val (.int (1 : Int32)), .val (.int (0 : Int32)), .val (.int (1 : Int32)), .val (.int (0 : Int32)), .val (.int (1 : Int32))] [])) _
        refine XS.iconst X859.here hx rfl (hb hby at_282) ?_
        show Steps p.tables e below (T859.setTop (mkF m 283 #[.val (.int p0), .val (.int p1), .val (.int p2), .val (.int p3), .val (.int (0 : Int32)), .val (.int (1 : Int32)), .val (.int (0 : Int32)), .val (.int (1 : Int32)), .val (.int (3 : Int32)), .val (.int (2 : Int32)), .val (.int ((p0 &&& (2147483647 : Int32)) % (3 : Int32))), .val (.int ((p1 &&& (2147483647 : Int32)) % (3 : Int32))), .val (.int ((p2 &&& (2147483647 : Int32)) % (2 : Int32))), .val (.ref b714), .val (.ref b789), .val (.int (1 : Int32)), .val (.int (own_b (¬ ((p1 &&& (2147483647 : Int32)) % (3 : Int32)) = ((p0 &&& (2147483647 : Int32)) % (3 : Int32))))), .val (.int (1 : Int32)), .val (.int (0 : Int32)), .val (.int (1 : Int32)), .val (.int (0 : Int32)), .val (.int (1 : Int32))] [(.int (1 : Int32))])) _
        refine XS.goto X859.here hx rfl (pc0 := 283) (pc' := 287) rfl (hb hby at_283) (by decide) (by decide) ?_
        show Steps p.tables e below (T859.setTop (mkF m 287 #[.val (.int p0), .val (.int p1), .val (.int p2), .val (.int p3), .val (.int (0 : Int32)), .val (.int (1 : Int32)), .val (.int (0 : Int32)), .val (.int (1 : Int32)), .val (.int (3 : Int32)), .val (.int (2 : Int32)), .val (.int ((p0 &&& (2147483647 : Int32)) % (3 : Int32))), .val (.int ((p1 &&& (2147483647 : Int32)) % (3 : Int32))), .val (.int ((p2 &&& (2147483647 : Int32)) % (2 : Int32))), .val (.ref b714), .val (.ref b789), .val (.int (1 : Int32)), .val (.int (own_b (¬ ((p1 &&& (2147483647 : Int32)) % (3 : Int32)) = ((p0 &&& (2147483647 : Int32)) % (3 : Int32))))), .val (.int (1 : Int32)), .val (.int (0 : Int32)), .val (.int (1 : Int32)), .val (.int (0 : Int32)), .val (.int (1 : Int32))] [(.int (1 : Int32))])) _
        refine XS.istore X859.here hx rfl (hb hby at_287) rfl (l' := #[.val (.int p0), .val (.int p1), .val (.int p2), .val (.int p3), .val (.int (0 : Int32)), .val (.int (1 : Int32)), .val (.int (0 : Int32)), .val (.int (1 : Int32)), .val (.int (3 : Int32)), .val (.int (2 : Int32)), .val (.int ((p0 &&& (2147483647 : Int32)) % (3 : Int32))), .val (.int ((p1 &&& (2147483647 : Int32)) % (3 : Int32))), .val (.int ((p2 &&& (2147483647 : Int32)) % (2 : Int32))), .val (.ref b714), .val (.ref b789), .val (.int (1 : Int32)), .val (.int (own_b (¬ ((p1 &&& (2147483647 : Int32)) % (3 : Int32)) = ((p0 &&& (2147483647 : Int32)) % (3 : Int32))))), .val (.int (1 : Int32)), .val (.int (0 : Int32)), .val (.int (1 : Int32)), .val (.int (0 : Int32)), .val (.int (1 : Int32))]) rfl ?_
        show Steps p.tables e below (T859.setTop (mkF m 289 #[.val (.int p0), .val (.int p1), .val (.int p2), .val (.int p3), .val (.int (0 : Int32)), .val (.int (1 : Int32)), .val (.int (0 : Int32)), .val (.int (1 : Int32)), .val (.int (3 : Int32)), .val (.int (2 : Int32)), .val (.int ((p0 &&& (2147483647 : Int32)) % (3 : Int32))), .val (.int ((p1 &&& (2147483647 : Int32)) % (3 : Int32))), .val (.int ((p2 &&& (2147483647 : Int32)) % (2 : Int32))), .val (.ref b714), .val (.ref b789), .val (.int (1 : Int32)), .val (.int (own_b (¬ ((p1 &&& (2147483647 : Int32)) % (3 : Int32)) = ((p0 &&& (2147483647 : Int32)) % (3 : Int32))))), .val (.int (1 : Int32)), .val (.int (0 : Int32)), .val (.int (1 : Int32)), .val (.int (0 : Int32)), .val (.int (1 : Int32))] [])) _
        refine XS.iload X859.here hx rfl (hb hby at_289) rfl ?_
        show Steps p.tables e below (T859.setTop (mkF m 291 #[.val (.int p0), .val (.int p1), .val (.int p2), .val (.int p3), .val (.int (0 : Int32)), .val (.int (1 : Int32)), .val (.int (0 : Int32)), .val (.int (1 : Int32)), .val (.int (3 : Int32)), .val (.int (2 : Int32)), .val (.int ((p0 &&& (2147483647 : Int32)) % (3 : Int32))), .val (.int ((p1 &&& (2147483647 : Int32)) % (3 : Int32))), .val (.int ((p2 &&& (2147483647 : Int32)) % (2 : Int32))), .val (.ref b714), .val (.ref b789), .val (.int (1 : Int32)), .val (.int (own_b (¬ ((p1 &&& (2147483647 : Int32)) % (3 : Int32)) = ((p0 &&& (2147483647 : Int32)) % (3 : Int32))))), .val (.int (1 : Int32)), .val (.int (0 : Int32)), .val (.int (1 : Int32)), .val (.int (0 : Int32)), .val (.int (1 : Int32))] [(.int (1 : Int32))])) _
        refine XS.ifNo X859.here hx rfl (hb hby at_291) rfl (by decide) ?_
        show Steps p.tables e below (T859.setTop (mkF m 294 #[.val (.int p0), .val (.int p1), .val (.int p2), .val (.int p3), .val (.int (0 : Int32)), .val (.int (1 : Int32)), .val (.int (0 : Int32)), .val (.int (1 : Int32)), .val (.int (3 : Int32)), .val (.int (2 : Int32)), .val (.int ((p0 &&& (2147483647 : Int32)) % (3 : Int32))), .val (.int ((p1 &&& (2147483647 : Int32)) % (3 : Int32))), .val (.int ((p2 &&& (2147483647 : Int32)) % (2 : Int32))), .val (.ref b714), .val (.ref b789), .val (.int (1 : Int32)), .val (.int (own_b (¬ ((p1 &&& (2147483647 : Int32)) % (3 : Int32)) = ((p0 &&& (2147483647 : Int32)) % (3 : Int32))))), .val (.int (1 : Int32)), .val (.int (0 : Int32)), .val (.int (1 : Int32)), .val (.int (0 : Int32)), .val (.int (1 : Int32))] [])) _
        refine XS.iload X859.here hx rfl (hb hby at_294) rfl ?_
        show Steps p.tables e below (T859.setTop (mkF m 296 #[.val (.int p0), .val (.int p1), .val (.int p2), .val (.int p3), .val (.int (0 : Int32)), .val (.int (1 : Int32)), .val (.int (0 : Int32)), .val (.int (1 : Int32)), .val (.int (3 : Int32)), .val (.int (2 : Int32)), .val (.int ((p0 &&& (2147483647 : Int32)) % (3 : Int32))), .val (.int ((p1 &&& (2147483647 : Int32)) % (3 : Int32))), .val (.int ((p2 &&& (2147483647 : Int32)) % (2 : Int32))), .val (.ref b714), .val (.ref b789), .val (.int (1 : Int32)), .val (.int (own_b (¬ ((p1 &&& (2147483647 : Int32)) % (3 : Int32)) = ((p0 &&& (2147483647 : Int32)) % (3 : Int32))))), .val (.int (1 : Int32)), .val (.int (0 : Int32)), .val (.int (1 : Int32)), .val (.int (0 : Int32)), .val (.int (1 : Int32))] [(.int (0 : Int32))])) _
        refine XS.ifNo X859.here hx rfl (hb hby at_296) rfl (by decide) ?_
        show Steps p.tables e below (T859.setTop (mkF m 299 #[.val (.int p0), .val (.int p1), .val (.int p2), .val (.int p3), .val (.int (0 : Int32)), .val (.int (1 : Int32)), .val (.int (0 : Int32)), .val (.int (1 : Int32)), .val (.int (3 : Int32)), .val (.int (2 : Int32)), .val (.int ((p0 &&& (2147483647 : Int32)) % (3 : Int32))), .val (.int ((p1 &&& (2147483647 : Int32)) % (3 : Int32))), .val (.int ((p2 &&& (2147483647 : Int32)) % (2 : Int32))), .val (.ref b714), .val (.ref b789), .val (.int (1 : Int32)), .val (.int (own_b (¬ ((p1 &&& (2147483647 : Int32)) % (3 : Int32)) = ((p0 &&& (2147483647 : Int32)) % (3 : Int32))))), .val (.int (1 : Int32)), .val (.int (0 : Int32)), .val (.int (1 : Int32)), .val (.int (0 : Int32)), .val (.int (1 : Int32))] [])) _
        refine XS.iconst X859.here hx rfl (hb hby at_299) ?_
        show Steps p.tables e below (T859.setTop (mkF m 300 #[.val (.int p0), .val (.int p1), .val (.int p2), .val (.int p3), .val (.int (0 : Int32)), .val (.int (1 : Int32)), .val (.int (0 : Int32)), .val (.int (1 : Int32)), .val (.int (3 : Int32)), .val (.int (2 : Int32)), .val (.int ((p0 &&& (2147483647 : Int32)) % (3 : Int32))), .val (.int ((p1 &&& (2147483647 : Int32)) % (3 : Int32))), .val (.int ((p2 &&& (2147483647 : Int32)) % (2 : Int32))), .val (.ref b714), .val (.ref b789), .val (.int (1 : Int32)), .val (.int (own_b (¬ ((p1 &&& (2147483647 : Int32)) % (3 : Int32)) = ((p0 &&& (2147483647 : Int32)) % (3 : Int32))))), .val (.int (1 : Int32)), .val (.int (0 : Int32)), .val (.int (1 : Int32)), .val (.int (0 : Int32)), .val (.int (1 : Int32))] [(.int (1 : Int32))])) _
        refine XS.goto X859.here hx rfl (pc0 := 300) (pc' := 304) rfl (hb hby at_300) (by decide) (by decide) ?_
        show Steps p.tables e below (T859.setTop (mkF m 304 #[.val (.int p0), .val (.int p1), .val (.int p2), .val (.int p3), .val (.int (0 : Int32)), .val (.int (1 : Int32)), .val (.int (0 : Int32)), .val (.int (1 : Int32)), .val (.int (3 : Int32)), .val (.int (2 : Int32)), .val (.int ((p0 &&& (2147483647 : Int32)) % (3 : Int32))), .val (.int ((p1 &&& (2147483647 : Int32)) % (3 : Int32))), .val (.int ((p2 &&& (2147483647 : Int32)) % (2 : Int32))), .val (.ref b714), .val (.ref b789), .val (.int (1 : Int32)), .val (.int (own_b (¬ ((p1 &&& (2147483647 : Int32)) % (3 : Int32)) = ((p0 &&& (2147483647 : Int32)) % (3 : Int32))))), .val (.int (1 : Int32)), .val (.int (0 : Int32)), .val (.int (1 : Int32)), .val (.int (0 : Int32)), .val (.int (1 : Int32))] [(.int (1 : Int32))])) _
        refine XS.istore X859.here hx rfl (hb hby at_304) rfl (l' := #[.val (.int p0), .val (.int p1), .val (.int p2), .val (.int p3), .val (.int (0 : Int32)), .val (.int (1 : Int32)), .val (.int (0 : Int32)), .val (.int (1 : Int32)), .val (.int (3 : Int32)), .val (.int (2 : Int32)), .val (.int ((p0 &&& (2147483647 : Int32)) % (3 : Int32))), .val (.int ((p1 &&& (2147483647 : Int32)) % (3 : Int32))), .val (.int ((p2 &&& (2147483647 : Int32)) % (2 : Int32))), .val (.ref b714), .val (.ref b789), .val (.int (1 : Int32)), .val (.int (own_b (¬ ((p1 &&& (2147483647 : Int32)) % (3 : Int32)) = ((p0 &&& (2147483647 : Int32)) % (3 : Int32))))), .val (.int (1 : Int32)), .val (.int (0 : Int32)), .val (.int (1 : Int32)), .val (.int (0 : Int32)), .val (.int (1 : Int32))]) rfl ?_
        show Steps p.tables e below (T859.setTop (mkF m 306 #[.val (.int p0), .val (.int p1), .val (.int p2), .val (.int p3), .val (.int (0 : Int32)), .val (.int (1 : Int32)), .val (.int (0 : Int32)), .val (.int (1 : Int32)), .val (.int (3 : Int32)), .val (.int (2 : Int32)), .val (.int ((p0 &&& (2147483647 : Int32)) % (3 : Int32))), .val (.int ((p1 &&& (2147483647 : Int32)) % (3 : Int32))), .val (.int ((p2 &&& (2147483647 : Int32)) % (2 : Int32))), .val (.ref b714), .val (.ref b789), .val (.int (1 : Int32)), .val (.int (own_b (¬ ((p1 &&& (2147483647 : Int32)) % (3 : Int32)) = ((p0 &&& (2147483647 : Int32)) % (3 : Int32))))), .val (.int (1 : Int32)), .val (.int (0 : Int32)), .val (.int (1 : Int32)), .val (.int (0 : Int32)), .val (.int (1 : Int32))] [])) _
        refine XS.iload X859.here hx rfl (hb hby at_306) rfl ?_
        show Steps p.tables e below (T859.setTop (mkF m 308 #[.val (.int p0), .val (.int p1), .val (.int p2), .val (.int p3), .val (.int (0 : Int32)), .val (.int (1 : Int32)), .val (.int (0 : Int32)), .val (.int (1 : Int32)), .val (.int (3 : Int32)), .val (.int (2 : Int32)), .val (.int ((p0 &&& (2147483647 : Int32)) % (3 : Int32))), .val (.int ((p1 &&& (2147483647 : Int32)) % (3 : Int32))), .val (.int ((p2 &&& (2147483647 : Int32)) % (2 : Int32))), .val (.ref b714), .val (.ref b789), .val (.int (1 : Int32)), .val (.int (own_b (¬ ((p1 &&& (2147483647 : Int32)) % (3 : Int32)) = ((p0 &&& (2147483647 : Int32)) % (3 : Int32))))), .val (.int (1 : Int32)), .val (.int (0 : Int32)), .val (.int (1 : Int32)), .val (.int (0 : Int32)), .val (.int (1 : Int32))] [(.int (1 : Int32))])) _
        refine XS.ifNo X859.here hx rfl (hb hby at_308) rfl (by decide) ?_
        show Steps p.tables e below (T859.setTop (mkF m 311 #[.val (.int p0), .val (.int p1), .val (.int p2), .val (.int p3), .val (.int (0 : Int32)), .val (.int (1 : Int32)), .val (.int (0 : Int32)), .val (.int (1 : Int32)), .val (.int (3 : Int32)), .val (.int (2 : Int32)), .val (.int ((p0 &&& (2147483647 : Int32)) % (3 : Int32))), .val (.int ((p1 &&& (2147483647 : Int32)) % (3 : Int32))), .val (.int ((p2 &&& (2147483647 : Int32)) % (2 : Int32))), .val (.ref b714), .val (.ref b789), .val (.int (1 : Int32)), .val (.int (own_b (¬ ((p1 &&& (2147483647 : Int32)) % (3 : Int32)) = ((p0 &&& (2147483647 : Int32)) % (3 : Int32))))), .val (.int (1 : Int32)), .val (.int (0 : Int32)), .val (.int (1 : Int32)), .val (.int (0 : Int32)), .val (.int (1 : Int32))] [])) _
        refine XS.iload X859.here hx rfl (hb hby at_311) rfl ?_
        show Steps p.tables e below (T859.setTop (mkF m 313 #[.val (.int p0), .val (.int p1), .val (.int p2), .val (.int p3), .val (.int (0 : Int32)), .val (.int (1 : Int32)), .val (.int (0 : Int32)), .val (.int (1 : Int32)), .val (.int (3 : Int32)), .val (.int (2 : Int32)), .val (.int ((p0 &&& (2147483647 : Int32)) % (3 : Int32))), .val (.int ((p1 &&& (2147483647 : Int32)) % (3 : Int32))), .val (.int ((p2 &&& (2147483647 : Int32)) % (2 : Int32))), .val (.ref b714), .val (.ref b789), .val (.int (1 : Int32)), .val (.int (own_b (¬ ((p1 &&& (2147483647 : Int32)) % (3 : Int32)) = ((p0 &&& (2147483647 : Int32)) % (3 : Int32))))), .val (.int (1 : Int32)), .val (.int (0 : Int32)), .val (.int (1 : Int32)), .val (.int (0 : Int32)), .val (.int (1 : Int32))] [(.int (1 : Int32))])) _
        refine XS.iload X859.here hx rfl (hb hby at_313) rfl ?_
        show Steps p.tables e below (T859.setTop (mkF m 315 #[.val (.int p0), .val (.int p1), .val (.int p2), .val (.int p3), .val (.int (0 : Int32)), .val (.int (1 : Int32)), .val (.int (0 : Int32)), .val (.int (1 : Int32)), .val (.int (3 : Int32)), .val (.int (2 : Int32)), .val (.int ((p0 &&& (2147483647 : Int32)) % (3 : Int32))), .val (.int ((p1 &&& (2147483647 : Int32)) % (3 : Int32))), .val (.int ((p2 &&& (2147483647 : Int32)) % (2 : Int32))), .val (.ref b714), .val (.ref b789), .val (.int (1 : Int32)), .val (.int (own_b (¬ ((p1 &&& (2147483647 : Int32)) % (3 : Int32)) = ((p0 &&& (2147483647 : Int32)) % (3 : Int32))))), .val (.int (1 : Int32)), .val (.int (0 : Int32)), .val (.int (1 : Int32)), .val (.int (0 : Int32)), .val (.int (1 : Int32))] [(.int (1 : Int32)), (.int (1 : Int32))])) _
        refine XS.icmpNo X859.here hx rfl (hb hby at_315) rfl (by decide) ?_
        show Steps p.tables e below (T859.setTop (mkF m 318 #[.val (.int p0), .val (.int p1), .val (.int p2), .val (.int p3), .val (.int (0 : Int32)), .val (.int (1 : Int32)), .val (.int (0 : Int32)), .val (.int (1 : Int32)), .val (.int (3 : Int32)), .val (.int (2 : Int32)), .val (.int ((p0 &&& (2147483647 : Int32)) % (3 : Int32))), .val (.int ((p1 &&& (2147483647 : Int32)) % (3 : Int32))), .val (.int ((p2 &&& (2147483647 : Int32)) % (2 : Int32))), .val (.ref b714), .val (.ref b789), .val (.int (1 : Int32)), .val (.int (own_b (¬ ((p1 &&& (2147483647 : Int32)) % (3 : Int32)) = ((p0 &&& (2147483647 : Int32)) % (3 : Int32))))), .val (.int (1 : Int32)), .val (.int (0 : Int32)), .val (.int (1 : Int32)), .val (.int (0 : Int32)), .val (.int (1 : Int32))] [])) _
        refine XS.iconst X859.here hx rfl (hb hby at_318) ?_
        show Steps p.tables e below (T859.setTop (mkF m 319 #[.val (.int p0), .val (.int p1), .val (.int p2), .val (.int p3), .val (.int (0 : Int32)), .val (.int (1 : Int32)), .val (.int (0 : Int32)), .val (.int (1 : Int32)), .val (.int (3 : Int32)), .val (.int (2 : Int32)), .val (.int ((p0 &&& (2147483647 : Int32)) % (3 : Int32))), .val (.int ((p1 &&& (2147483647 : Int32)) % (3 : Int32))), .val (.int ((p2 &&& (2147483647 : Int32)) % (2 : Int32))), .val (.ref b714), .val (.ref b789), .val (.int (1 : Int32)), .val (.int (own_b (¬ ((p1 &&& (2147483647 : Int32)) % (3 : Int32)) = ((p0 &&& (2147483647 : Int32)) % (3 : Int32))))), .val (.int (1 : Int32)), .val (.int (0 : Int32)), .val (.int (1 : Int32)), .val (.int (0 : Int32)), .val (.int (1 : Int32))] [(.int (1 : Int32))])) _
        refine XS.goto X859.here hx rfl (pc0 := 319) (pc' := 323) rfl (hb hby at_319) (by decide) (by decide) ?_
        show Steps p.tables e below (T859.setTop (mkF m 323 #[.val (.int p0), .val (.int p1), .val (.int p2), .val (.int p3), .val (.int (0 : Int32)), .val (.int (1 : Int32)), .val (.int (0 : Int32)), .val (.int (1 : Int32)), .val (.int (3 : Int32)), .val (.int (2 : Int32)), .val (.int ((p0 &&& (2147483647 : Int32)) % (3 : Int32))), .val (.int ((p1 &&& (2147483647 : Int32)) % (3 : Int32))), .val (.int ((p2 &&& (2147483647 : Int32)) % (2 : Int32))), .val (.ref b714), .val (.ref b789), .val (.int (1 : Int32)), .val (.int (own_b (¬ ((p1 &&& (2147483647 : Int32)) % (3 : Int32)) = ((p0 &&& (2147483647 : Int32)) % (3 : Int32))))), .val (.int (1 : Int32)), .val (.int (0 : Int32)), .val (.int (1 : Int32)), .val (.int (0 : Int32)), .val (.int (1 : Int32))] [(.int (1 : Int32))])) _
        refine XS.istore X859.here hx rfl (hb hby at_323) rfl (l' := #[.val (.int p0), .val (.int p1), .val (.int p2), .val (.int p3), .val (.int (0 : Int32)), .val (.int (1 : Int32)), .val (.int (0 : Int32)), .val (.int (1 : Int32)), .val (.int (3 : Int32)), .val (.int (2 : Int32)), .val (.int ((p0 &&& (2147483647 : Int32)) % (3 : Int32))), .val (.int ((p1 &&& (2147483647 : Int32)) % (3 : Int32))), .val (.int ((p2 &&& (2147483647 : Int32)) % (2 : Int32))), .val (.ref b714), .val (.ref b789), .val (.int (1 : Int32)), .val (.int (own_b (¬ ((p1 &&& (2147483647 : Int32)) % (3 : Int32)) = ((p0 &&& (2147483647 : Int32)) % (3 : Int32))))), .val (.int (1 : Int32)), .val (.int (0 : Int32)), .val (.int (1 : Int32)), .val (.int (0 : Int32)), .val (.int (1 : Int32))]) rfl ?_
        show Steps p.tables e below (T859.setTop (mkF m 325 #[.val (.int p0), .val (.int p1), .val (.int p2), .val (.int p3), .val (.int (0 : Int32)), .val (.int (1 : Int32)), .val (.int (0 : Int32)), .val (.int (1 : Int32)), .val (.int (3 : Int32)), .val (.int (2 : Int32)), .val (.int ((p0 &&& (2147483647 : Int32)) % (3 : Int32))), .val (.int ((p1 &&& (2147483647 : Int32)) % (3 : Int32))), .val (.int ((p2 &&& (2147483647 : Int32)) % (2 : Int32))), .val (.ref b714), .val (.ref b789), .val (.int (1 : Int32)), .val (.int (own_b (¬ ((p1 &&& (2147483647 : Int32)) % (3 : Int32)) = ((p0 &&& (2147483647 : Int32)) % (3 : Int32))))), .val (.int (1 : Int32)), .val (.int (0 : Int32)), .val (.int (1 : Int32)), .val (.int (0 : Int32)), .val (.int (1 : Int32))] [])) _
        refine XS.iload X859.here hx rfl (hb hby at_325) rfl ?_
        show Steps p.tables e below (T859.setTop (mkF m 327 #[.val (.int p0), .val (.int p1), .val (.int p2), .val (.int p3), .val (.int (0 : Int32)), .val (.int (1 : Int32)), .val (.int (0 : Int32)), .val (.int (1 : Int32)), .val (.int (3 : Int32)), .val (.int (2 : Int32)), .val (.int ((p0 &&& (2147483647 : Int32)) % (3 : Int32))), .val (.int ((p1 &&& (2147483647 : Int32)) % (3 : Int32))), .val (.int ((p2 &&& (2147483647 : Int32)) % (2 : Int32))), .val (.ref b714), .val (.ref b789), .val (.int (1 : Int32)), .val (.int (own_b (¬ ((p1 &&& (2147483647 : Int32)) % (3 : Int32)) = ((p0 &&& (2147483647 : Int32)) % (3 : Int32))))), .val (.int (1 : Int32)), .val (.int (0 : Int32)), .val (.int (1 : Int32)), .val (.int (0 : Int32)), .val (.int (1 : Int32))] [(.int (1 : Int32))])) _
        refine XS.ifNo X859.here hx rfl (hb hby at_327) rfl (by decide) ?_
        show Steps p.tables e below (T859.setTop (mkF m 330 #[.val (.int p0), .val (.int p1), .val (.int p2), .val (.int p3), .val (.int (0 : Int32)), .val (.int (1 : Int32)), .val (.int (0 : Int32)), .val (.int (1 : Int32)), .val (.int (3 : Int32)), .val (.int (2 : Int32)), .val (.int ((p0 &&& (2147483647 : Int32)) % (3 : Int32))), .val (.int ((p1 &&& (2147483647 : Int32)) % (3 : Int32))), .val (.int ((p2 &&& (2147483647 : Int32)) % (2 : Int32))), .val (.ref b714), .val (.ref b789), .val (.int (1 : Int32)), .val (.int (own_b (¬ ((p1 &&& (2147483647 : Int32)) % (3 : Int32)) = ((p0 &&& (2147483647 : Int32)) % (3 : Int32))))), .val (.int (1 : Int32)), .val (.int (0 : Int32)), .val (.int (1 : Int32)), .val (.int (0 : Int32)), .val (.int (1 : Int32))] [])) _
        refine XS.iload X859.here hx rfl (hb hby at_330) rfl ?_
        show Steps p.tables e below (T859.setTop (mkF m 332 #[.val (.int p0), .val (.int p1), .val (.int p2), .val (.int p3), .val (.int (0 : Int32)), .val (.int (1 : Int32)), .val (.int (0 : Int32)), .val (.int (1 : Int32)), .val (.int (3 : Int32)), .val (.int (2 : Int32)), .val (.int ((p0 &&& (2147483647 : Int32)) % (3 : Int32))), .val (.int ((p1 &&& (2147483647 : Int32)) % (3 : Int32))), .val (.int ((p2 &&& (2147483647 : Int32)) % (2 : Int32))), .val (.ref b714), .val (.ref b789), .val (.int (1 : Int32)), .val (.int (own_b (¬ ((p1 &&& (2147483647 : Int32)) % (3 : Int32)) = ((p0 &&& (2147483647 : Int32)) % (3 : Int32))))), .val (.int (1 : Int32)), .val (.int (0 : Int32)), .val (.int (1 : Int32)), .val (.int (0 : Int32)), .val (.int (1 : Int32))] [(.int (0 : Int32))])) _
        refine XS.iload X859.here hx rfl (hb hby at_332) rfl ?_
        show Steps p.tables e below (T859.setTop (mkF m 334 #[.val (.int p0), .val (.int p1), .val (.int p2), .val (.int p3), .val (.int (0 : Int32)), .val (.int (1 : Int32)), .val (.int (0 : Int32)), .val (.int (1 : Int32)), .val (.int (3 : Int32)), .val (.int (2 : Int32)), .val (.int ((p0 &&& (2147483647 : Int32)) % (3 : Int32))), .val (.int ((p1 &&& (2147483647 : Int32)) % (3 : Int32))), .val (.int ((p2 &&& (2147483647 : Int32)) % (2 : Int32))), .val (.ref b714), .val (.ref b789), .val (.int (1 : Int32)), .val (.int (own_b (¬ ((p1 &&& (2147483647 : Int32)) % (3 : Int32)) = ((p0 &&& (2147483647 : Int32)) % (3 : Int32))))), .val (.int (1 : Int32)), .val (.int (0 : Int32)), .val (.int (1 : Int32)), .val (.int (0 : Int32)), .val (.int (1 : Int32))] [(.int (1 : Int32)), (.int (0 : Int32))])) _
        refine XS.ifYes X859.here hx rfl (pc0 := 334) (pc' := 341) rfl (hb hby at_334) rfl (by decide) (by decide) (by decide) ?_
        show Steps p.tables e below (T859.setTop (mkF m 341 #[.val (.int p0), .val (.int p1), .val (.int p2), .val (.int p3), .val (.int (0 : Int32)), .val (.int (1 : Int32)), .val (.int (0 : Int32)), .val (.int (1 : Int32)), .val (.int (3 : Int32)), .val (.int (2 : Int32)), .val (.int ((p0 &&& (2147483647 : Int32)) % (3 : Int32))), .val (.int ((p1 &&& (2147483647 : Int32)) % (3 : Int32))), .val (.int ((p2 &&& (2147483647 : Int32)) % (2 : Int32))), .val (.ref b714), .val (.ref b789), .val (.int (1 : Int32)), .val (.int (own_b (¬ ((p1 &&& (2147483647 : Int32)) % (3 : Int32)) = ((p0 &&& (2147483647 : Int32)) % (3 : Int32))))), .val (.int (1 : Int32)), .val (.int (0 : Int32)), .val (.int (1 : Int32)), .val (.int (0 : Int32)), .val (.int (1 : Int32))] [(.int (0 : Int32))])) _
        refine XS.iconst X859.here hx rfl (hb hby at_341) ?_
        show Steps p.tables e below (T859.setTop (mkF m 342 #[.val (.int p0), .val (.int p1), .val (.int p2), .val (.int p3), .val (.int (0 : Int32)), .val (.int (1 : Int32)), .val (.int (0 : Int32)), .val (.int (1 : Int32)), .val (.int (3 : Int32)), .val (.int (2 : Int32)), .val (.int ((p0 &&& (2147483647 : Int32)) % (3 : Int32))), .val (.int ((p1 &&& (2147483647 : Int32)) % (3 : Int32))), .val (.int ((p2 &&& (2147483647 : Int32)) % (2 : Int32))), .val (.ref b714), .val (.ref b789), .val (.int (1 : Int32)), .val (.int (own_b (¬ ((p1 &&& (2147483647 : Int32)) % (3 : Int32)) = ((p0 &&& (2147483647 : Int32)) % (3 : Int32))))), .val (.int (1 : Int32)), .val (.int (0 : Int32)), .val (.int (1 : Int32)), .val (.int (0 : Int32)), .val (.int (1 : Int32))] [(.int (0 : Int32)), (.int (0 : Int32))])) _
        refine XS.icmpNo X859.here hx rfl (hb hby at_342) rfl (by decide) ?_
        show Steps p.tables e below (T859.setTop (mkF m 345 #[.val (.int p0), .val (.int p1), .val (.int p2), .val (.int p3), .val (.int (0 : Int32)), .val (.int (1 : Int32)), .val (.int (0 : Int32)), .val (.int (1 : Int32)), .val (.int (3 : Int32)), .val (.int (2 : Int32)), .val (.int ((p0 &&& (2147483647 : Int32)) % (3 : Int32))), .val (.int ((p1 &&& (2147483647 : Int32)) % (3 : Int32))), .val (.int ((p2 &&& (2147483647 : Int32)) % (2 : Int32))), .val (.ref b714), .val (.ref b789), .val (.int (1 : Int32)), .val (.int (own_b (¬ ((p1 &&& (2147483647 : Int32)) % (3 : Int32)) = ((p0 &&& (2147483647 : Int32)) % (3 : Int32))))), .val (.int (1 : Int32)), .val (.int (0 : Int32)), .val (.int (1 : Int32)), .val (.int (0 : Int32)), .val (.int (1 : Int32))] [])) _
        refine XS.iconst X859.here hx rfl (hb hby at_345) ?_
        show Steps p.tables e below (T859.setTop (mkF m 346 #[.val (.int p0), .val (.int p1), .val (.int p2), .val (.int p3), .val (.int (0 : Int32)), .val (.int (1 : Int32)), .val (.int (0 : Int32)), .val (.int (1 : Int32)), .val (.int (3 : Int32)), .val (.int (2 : Int32)), .val (.int ((p0 &&& (2147483647 : Int32)) % (3 : Int32))), .val (.int ((p1 &&& (2147483647 : Int32)) % (3 : Int32))), .val (.int ((p2 &&& (2147483647 : Int32)) % (2 : Int32))), .val (.ref b714), .val (.ref b789), .val (.int (1 : Int32)), .val (.int (own_b (¬ ((p1 &&& (2147483647 : Int32)) % (3 : Int32)) = ((p0 &&& (2147483647 : Int32)) % (3 : Int32))))), .val (.int (1 : Int32)), .val (.int (0 : Int32)), .val (.int (1 : Int32)), .val (.int (0 : Int32)), .val (.int (1 : Int32))] [(.int (1 : Int32))])) _
        refine XS.goto X859.here hx rfl (pc0 := 346) (pc' := 350) rfl (hb hby at_346) (by decide) (by decide) ?_
        show Steps p.tables e below (T859.setTop (mkF m 350 #[.val (.int p0), .val (.int p1), .val (.int p2), .val (.int p3), .val (.int (0 : Int32)), .val (.int (1 : Int32)), .val (.int (0 : Int32)), .val (.int (1 : Int32)), .val (.int (3 : Int32)), .val (.int (2 : Int32)), .val (.int ((p0 &&& (2147483647 : Int32)) % (3 : Int32))), .val (.int ((p1 &&& (2147483647 : Int32)) % (3 : Int32))), .val (.int ((p2 &&& (2147483647 : Int32)) % (2 : Int32))), .val (.ref b714), .val (.ref b789), .val (.int (1 : Int32)), .val (.int (own_b (¬ ((p1 &&& (2147483647 : Int32)) % (3 : Int32)) = ((p0 &&& (2147483647 : Int32)) % (3 : Int32))))), .val (.int (1 : Int32)), .val (.int (0 : Int32)), .val (.int (1 : Int32)), .val (.int (0 : Int32)), .val (.int (1 : Int32))] [(.int (1 : Int32))])) _
        refine XS.istore X859.here hx rfl (hb hby at_350) rfl (l' := #[.val (.int p0), .val (.int p1), .val (.int p2), .val (.int p3), .val (.int (0 : Int32)), .val (.int (1 : Int32)), .val (.int (0 : Int32)), .val (.int (1 : Int32)), .val (.int (3 : Int32)), .val (.int (2 : Int32)), .val (.int ((p0 &&& (2147483647 : Int32)) % (3 : Int32))), .val (.int ((p1 &&& (2147483647 : Int32)) % (3 : Int32))), .val (.int ((p2 &&& (2147483647 : Int32)) % (2 : Int32))), .val (.ref b714), .val (.ref b789), .val (.int (1 : Int32)), .val (.int (own_b (¬ ((p1 &&& (2147483647 : Int32)) % (3 : Int32)) = ((p0 &&& (2147483647 : Int32)) % (3 : Int32))))), .val (.int (1 : Int32)), .val (.int (0 : Int32)), .val (.int (1 : Int32)), .val (.int (0 : Int32)), .val (.int (1 : Int32))]) rfl ?_
        show Steps p.tables e below (T859.setTop (mkF m 352 #[.val (.int p0), .val (.int p1), .val (.int p2), .val (.int p3), .val (.int (0 : Int32)), .val (.int (1 : Int32)), .val (.int (0 : Int32)), .val (.int (1 : Int32)), .val (.int (3 : Int32)), .val (.int (2 : Int32)), .val (.int ((p0 &&& (2147483647 : Int32)) % (3 : Int32))), .val (.int ((p1 &&& (2147483647 : Int32)) % (3 : Int32))), .val (.int ((p2 &&& (2147483647 : Int32)) % (2 : Int32))), .val (.ref b714), .val (.ref b789), .val (.int (1 : Int32)), .val (.int (own_b (¬ ((p1 &&& (2147483647 : Int32)) % (3 : Int32)) = ((p0 &&& (2147483647 : Int32)) % (3 : Int32))))), .val (.int (1 : Int32)), .val (.int (0 : Int32)), .val (.int (1 : Int32)), .val (.int (0 : Int32)), .val (.int (1 : Int32))] [])) _
        refine XS.iload X859.here hx rfl (hb hby at_352) rfl ?_
        show Steps p.tables e below (T859.setTop (mkF m 354 #[.val (.int p0), .val (.int p1), .val (.int p2), .val (.int p3), .val (.int (0 : Int32)), .val (.int (1 : Int32)), .val (.int (0 : Int32)), .val (.int (1 : Int32)), .val (.int (3 : Int32)), .val (.int (2 : Int32)), .val (.int ((p0 &&& (2147483647 : Int32)) % (3 : Int32))), .val (.int ((p1 &&& (2147483647 : Int32)) % (3 : Int32))), .val (.int ((p2 &&& (2147483647 : Int32)) % (2 : Int32))), .val (.ref b714), .val (.ref b789), .val (.int (1 : Int32)), .val (.int (own_b (¬ ((p1 &&& (2147483647 : Int32)) % (3 : Int32)) = ((p0 &&& (2147483647 : Int32)) % (3 : Int32))))), .val (.int (1 : Int32)), .val (.int (0 : Int32)), .val (.int (1 : Int32)), .val (.int (0 : Int32)), .val (.int (1 : Int32))] [(.int (1 : Int32))])) _
        exact kq)
      have f870 := (Nat.le_trans (Nat.le_trans (Nat.le_trans (Nat.le_trans (Nat.le_trans (Nat.le_trans (Nat.le_trans (Nat.le_trans (Nat.le_trans (Nat.le_trans (Nat.le_trans hk761 E765.1) K770.1) K779.1) E789.1) K794.1) K810.1) K815.1) K820.1) K825.1) K849.1) K854.1)
      obtain ⟨fs, hr, hrun, hended, hRW⟩ := X859.leaveW (s := s) (vm₁ := T761.vm) hS (by rw [e859]; exact f870) (v := some (.int (nar .boolean (1 : Int32)))) (fun h => by rw [Bd.returns] at h; cases h)
      refine ⟨_, _, (by rw [← hA0]; exact G869 _ (retN X859 hx (t := .boolean) Bd.returns (by simp) (hb hby at_354) hr)), hrun, hended, _, _, rfl, ?_, hRW.1, hRW.2.1, hRW.2.2.1, hRW.2.2.2.mono (by decide) (by decide)⟩
      exact ⟨rfl, N859⟩
  · have ha := own_rem p0 (2 : Int32) (Or.inr rfl)
    have hb_ := own_rem p1 (2 : Int32) (Or.inr rfl)
    have hc_ := own_rem p2 (3 : Int32) (Or.inl rfl)
    have G871 : Go p e below A0 (T794.setTop (mkF m 169 #[.val (.int p0), .val (.int p1), .val (.int p2), .val (.int p3), .val (.int (1 : Int32)), .val (.int l5), .val (.int (1 : Int32)), .val (.int (0 : Int32)), .val (.int (2 : Int32)), .val (.int (3 : Int32)), .val (.int ((p0 &&& (2147483647 : Int32)) % (2 : Int32))), .val (.int ((p1 &&& (2147483647 : Int32)) % (2 : Int32))), .val (.int ((p2 &&& (2147483647 : Int32)) % (3 : Int32))), .val (.ref b714), .val (.ref b789), .unset, .unset, .unset, .unset, .unset, .unset, .unset] [(.int ((p0 &&& (2147483647 : Int32)) % (2 : Int32))), (.int (1 : Int32)), (.ref b789)])) := fun tq kq => G808 tq (by
      refine XS.aload X794.here hx rfl (hb hby at_163) rfl rfl ?_
      show Steps p.tables e below (T794.setTop (mkF m 165 #[.val (.int p0), .val (.int p1), .val (.int p2), .val (.int p3), .val (.int (1 : Int32)), .val (.int l5), .val (.int (1 : Int32)), .val (.int (0 : Int32)), .val (.int (2 : Int32)), .val (.int (3 : Int32)), .val (.int ((p0 &&& (2147483647 : Int32)) % (2 : Int32))), .val (.int ((p1 &&& (2147483647 : Int32)) % (2 : Int32))), .val (.int ((p2 &&& (2147483647 : Int32)) % (3 : Int32))), .val (.ref b714), .val (.ref b789), .unset, .unset, .unset, .unset, .unset, .unset, .unset] [(.ref b789)])) _
      refine XS.iload X794.here hx rfl (hb hby at_165) rfl ?_
      show Steps p.tables e below (T794.setTop (mkF m 167 #[.val (.int p0), .val (.int p1), .val (.int p2), .val (.int p3), .val (.int (1 : Int32)), .val (.int l5), .val (.int (1 : Int32)), .val (.int (0 : Int32)), .val (.int (2 : Int32)), .val (.int (3 : Int32)), .val (.int ((p0 &&& (2147483647 : Int32)) % (2 : Int32))), .val (.int ((p1 &&& (2147483647 : Int32)) % (2 : Int32))), .val (.int ((p2 &&& (2147483647 : Int32)) % (3 : Int32))), .val (.ref b714), .val (.ref b789), .unset, .unset, .unset, .unset, .unset, .unset, .unset] [(.int (1 : Int32)), (.ref b789)])) _
      refine XS.iload X794.here hx rfl (hb hby at_167) rfl ?_
      show Steps p.tables e below (T794.setTop (mkF m 169 #[.val (.int p0), .val (.int p1), .val (.int p2), .val (.int p3), .val (.int (1 : Int32)), .val (.int l5), .val (.int (1 : Int32)), .val (.int (0 : Int32)), .val (.int (2 : Int32)), .val (.int (3 : Int32)), .val (.int ((p0 &&& (2147483647 : Int32)) % (2 : Int32))), .val (.int ((p1 &&& (2147483647 : Int32)) % (2 : Int32))), .val (.int ((p2 &&& (2147483647 : Int32)) % (3 : Int32))), .val (.ref b714), .val (.ref b789), .unset, .unset, .unset, .unset, .unset, .unset, .unset] [(.int ((p0 &&& (2147483647 : Int32)) % (2 : Int32))), (.int (1 : Int32)), (.ref b789)])) _
      exact kq)
    have f873 := (Nat.le_trans f795 K794.1)
    have f874 := (A789.keep K794)
    obtain ⟨cq872, kq872, q872a, q872b, q872c⟩ := isOf hZ rfl f874
    obtain ⟨_, _, ⟨T872, L872, k872, n872⟩, -, X872, ⟨Lc872, hQ872, l872, y872, z872⟩, st872⟩ := X794.virtualBack hx (y := (⟨"com/example/ludarc/ludarc/engine/Domains", "mark", "(II)Z"⟩ : MethodName)) (z := (⟨"com/example/ludarc/ludarc/engine/Domains", "mark", "(II)Z"⟩ : MethodName)) hown (mvT hZ (hw _ (List.mem_of_getElem? (i := 142) rfl))) (mvT hZ (hw _ (List.mem_of_getElem? (i := 143) rfl))) (notFace_of_selects (args := #[]) (mvT hZ (hw _ (List.mem_of_getElem? (i := 145) rfl)))) (mvT hZ (hw _ (List.mem_of_getElem? (i := 145) rfl))) (mvT hZ (hw _ (List.mem_of_getElem? (i := 144) rfl))) (by decide) (backOf (W := 0) (rmM1 l Z a0 hw [] b789 mem_ pos_ siz_ mrk_ m0_ p0_ k0_ m1_ p1_ k1_ (1 : Int32) (own_sz) (own_id) (own_id) (own_zero) (own_id) (own_id) (own_zero) (1 : Int32) ((p0 &&& (2147483647 : Int32)) % (2 : Int32)) T794.heap n0 f873 ord794 dom794 ha (own_bt (own_upz _))) hZ (hw _ (List.mem_of_getElem? (i := 146) rfl)) (hw _ (List.mem_of_getElem? (i := 87) rfl)) (by decide) (by decide)) q872a q872c (g := (mkF m 169 #[.val (.int p0), .val (.int p1), .val (.int p2), .val (.int p3), .val (.int (1 : Int32)), .val (.int l5), .val (.int (1 : Int32)), .val (.int (0 : Int32)), .val (.int (2 : Int32)), .val (.int (3 : Int32)), .val (.int ((p0 &&& (2147483647 : Int32)) % (2 : Int32))), .val (.int ((p1 &&& (2147483647 : Int32)) % (2 : Int32))), .val (.int ((p2 &&& (2147483647 : Int32)) % (3 : Int32))), .val (.ref b714), .val (.ref b789), .unset, .unset, .unset, .unset, .unset, .unset, .unset] [(.int ((p0 &&& (2147483647 : Int32)) % (2 : Int32))), (.int (1 : Int32)), (.ref b789)])) rfl (by rw [hml]; rfl) (Steps.refl _) (argsL := [(.int (1 : Int32)), (.int ((p0 &&& (2147483647 : Int32)) % (2 : Int32)))]) (rest := []) (lenOf pd_11 rfl) rfl (by show 2 * 0 + _ ≤ _; exact Nat.le_of_eq rfl) (hb hby at_169) (fun _ _ => ⟨rfl, rfl, (by decide : 21 + 0 ≤ _), (by decide : 72 + 0 ≤ _)⟩)
    dsimp only [Pt.U, Pt.locs, Pt.cells, Pt.slots] at X872 l872 y872 z872 st872 hQ872
    obtain rfl : k872 = 21 := y872
    obtain rfl : n872 = 72 := z872
    obtain ⟨rfl, N872q, K872, dom872⟩ := hQ872
    have N872 : Fr n0 L872 := by rw [l872]; exact Fr.app N794 N872q
    have G875 : Go p e below A0 (T872.setTop (mkF m 172 #[.val (.int p0), .val (.int p1), .val (.int p2), .val (.int p3), .val (.int (1 : Int32)), .val (.int l5), .val (.int (1 : Int32)), .val (.int (0 : Int32)), .val (.int (2 : Int32)), .val (.int (3 : Int32)), .val (.int ((p0 &&& (2147483647 : Int32)) % (2 : Int32))), .val (.int ((p1 &&& (2147483647 : Int32)) % (2 : Int32))), .val (.int ((p2 &&& (2147483647 : Int32)) % (3 : Int32))), .val (.ref b714), .val (.ref b789), .unset, .unset, .unset, .unset, .unset, .unset, .unset] [(.int (1 : Int32))])) := fun tq kq => G871 tq (st872.trans kq)
    have G876 : Go p e below A0 (T872.setTop (mkF m 180 #[.val (.int p0), .val (.int p1), .val (.int p2), .val (.int p3), .val (.int (1 : Int32)), .val (.int l5), .val (.int (1 : Int32)), .val (.int (0 : Int32)), .val (.int (2 : Int32)), .val (.int (3 : Int32)), .val (.int ((p0 &&& (2147483647 : Int32)) % (2 : Int32))), .val (.int ((p1 &&& (2147483647 : Int32)) % (2 : Int32))), .val (.int ((p2 &&& (2147483647 : Int32)) % (3 : Int32))), .val (.ref b714), .val (.ref b789), .val (.int (1 : Int32)), .unset, .unset, .unset, .unset, .unset, .unset] [(.int ((p1 &&& (2147483647 : Int32)) % (2 : Int32))), (.int (1 : Int32)), (.ref b789)])) := fun tq kq => G875 tq (by
      refine XS.istore X872.here hx rfl (hb hby at_172) rfl (l' := #[.val (.int p0), .val (.int p1), .val (.int p2), .val (.int p3), .val (.int (1 : Int32)), .val (.int l5), .val (.int (1 : Int32)), .val (.int (0 : Int32)), .val (.int (2 : Int32)), .val (.int (3 : Int32)), .val (.int ((p0 &&& (2147483647 : Int32)) % (2 : Int32))), .val (.int ((p1 &&& (2147483647 : Int32)) % (2 : Int32))), .val (.int ((p2 &&& (2147483647 : Int32)) % (3 : Int32))), .val (.ref b714), .val (.ref b789), .val (.int (1 : Int32)), .unset, .unset, .unset, .unset, .unset, .unset]) rfl ?_
      show Steps p.tables e below (T872.setTop (mkF m 174 #[.val (.int p0), .val (.int p1), .val (.int p2), .val (.int p3), .val (.int (1 : Int32)), .val (.int l5), .val (.int (1 : Int32)), .val (.int (0 : Int32)), .val (.int (2 : Int32)), .val (.int (3 : Int32)), .val (.int ((p0 &&& (2147483647 : Int32)) % (2 : Int32))), .val (.int ((p1 &&& (2147483647 : Int32)) % (2 : Int32))), .val (.int ((p2 &&& (2147483647 : Int32)) % (3 : Int32))), .val (.ref b714), .val (.ref b789), .val (.int (1 : Int32)), .unset, .unset, .unset, .unset, .unset, .unset] [])) _
      refine XS.aload X872.here hx rfl (hb hby at_174) rfl rfl ?_
      show Steps p.tables e below (T872.setTop (mkF m 176 #[.val (.int p0), .val (.int p1), .val (.int p2), .val (.int p3), .val (.int (1 : Int32)), .val (.int l5), .val (.int (1 : Int32)), .val (.int (0 : Int32)), .val (.int (2 : Int32)), .val (.int (3 : Int32)), .val (.int ((p0 &&& (2147483647 : Int32)) % (2 : Int32))), .val (.int ((p1 &&& (2147483647 : Int32)) % (2 : Int32))), .val (.int ((p2 &&& (2147483647 : Int32)) % (3 : Int32))), .val (.ref b714), .val (.ref b789), .val (.int (1 : Int32)), .unset, .unset, .unset, .unset, .unset, .unset] [(.ref b789)])) _
      refine XS.iload X872.here hx rfl (hb hby at_176) rfl ?_
      show Steps p.tables e below (T872.setTop (mkF m 178 #[.val (.int p0), .val (.int p1), .val (.int p2), .val (.int p3), .val (.int (1 : Int32)), .val (.int l5), .val (.int (1 : Int32)), .val (.int (0 : Int32)), .val (.int (2 : Int32)), .val (.int (3 : Int32)), .val (.int ((p0 &&& (2147483647 : Int32)) % (2 : Int32))), .val (.int ((p1 &&& (2147483647 : Int32)) % (2 : Int32))), .val (.int ((p2 &&& (2147483647 : Int32)) % (3 : Int32))), .val (.ref b714), .val (.ref b789), .val (.int (1 : Int32)), .unset, .unset, .unset, .unset, .unset, .unset] [(.int (1 : Int32)), (.ref b789)])) _
      refine XS.iload X872.here hx rfl (hb hby at_178) rfl ?_
      show Steps p.tables e below (T872.setTop (mkF m 180 #[.val (.int p0), .val (.int p1), .val (.int p2), .val (.int p3), .val (.int (1 : Int32)), .val (.int l5), .val (.int (1 : Int32)), .val (.int (0 : Int32)), .val (.int (2 : Int32)), .val (.int (3 : Int32)), .val (.int ((p0 &&& (2147483647 : Int32)) % (2 : Int32))), .val (.int ((p1 &&& (2147483647 : Int32)) % (2 : Int32))), .val (.int ((p2 &&& (2147483647 : Int32)) % (3 : Int32))), .val (.ref b714), .val (.ref b789), .val (.int (1 : Int32)), .unset, .unset, .unset, .unset, .unset, .unset] [(.int ((p1 &&& (2147483647 : Int32)) % (2 : Int32))), (.int (1 : Int32)), (.ref b789)])) _
      exact kq)
    have f878 := (Nat.le_trans f873 K872.1)
    have f879 := (f874.keep K872)
    obtain ⟨cq877, kq877, q877a, q877b, q877c⟩ := isOf hZ rfl f879
    obtain ⟨_, _, ⟨T877, L877, k877, n877⟩, -, X877, ⟨Lc877, hQ877, l877, y877, z877⟩, st877⟩ := X872.virtualBack hx (y := (⟨"com/example/ludarc/ludarc/engine/Domains", "mark", "(II)Z"⟩ : MethodName)) (z := (⟨"com/example/ludarc/ludarc/engine/Domains", "mark", "(II)Z"⟩ : MethodName)) hown (mvT hZ (hw _ (List.mem_of_getElem? (i := 142) rfl))) (mvT hZ (hw _ (List.mem_of_getElem? (i := 143) rfl))) (notFace_of_selects (args := #[]) (mvT hZ (hw _ (List.mem_of_getElem? (i := 145) rfl)))) (mvT hZ (hw _ (List.mem_of_getElem? (i := 145) rfl))) (mvT hZ (hw _ (List.mem_of_getElem? (i := 144) rfl))) (by decide) (backOf (W := 0) (rmM1 l Z a0 hw [] b789 mem_ pos_ siz_ mrk_ m0_ p0_ k0_ m1_ p1_ k1_ (1 : Int32) (own_sz) (own_id) (own_id) (own_zero) (own_id) (own_id) (own_up (own_zero) (((p0 &&& (2147483647 : Int32)) % (2 : Int32))).toNatClampNeg (1 : Int32)) (own_b (¬ ((p1 &&& (2147483647 : Int32)) % (2 : Int32)) = ((p0 &&& (2147483647 : Int32)) % (2 : Int32)))) ((p1 &&& (2147483647 : Int32)) % (2 : Int32)) T872.heap n0 f878 ord794 dom872 hb_ (own_m2 ha.1 hb_.1)) hZ (hw _ (List.mem_of_getElem? (i := 146) rfl)) (hw _ (List.mem_of_getElem? (i := 87) rfl)) (by decide) (by decide)) q877a q877c (g := (mkF m 180 #[.val (.int p0), .val (.int p1), .val (.int p2), .val (.int p3), .val (.int (1 : Int32)), .val (.int l5), .val (.int (1 : Int32)), .val (.int (0 : Int32)), .val (.int (2 : Int32)), .val (.int (3 : Int32)), .val (.int ((p0 &&& (2147483647 : Int32)) % (2 : Int32))), .val (.int ((p1 &&& (2147483647 : Int32)) % (2 : Int32))), .val (.int ((p2 &&& (2147483647 : Int32)) % (3 : Int32))), .val (.ref b714), .val (.ref b789), .val (.int (1 : Int32)), .unset, .unset, .unset, .unset, .unset, .unset] [(.int ((p1 &&& (2147483647 : Int32)) % (2 : Int32))), (.int (1 : Int32)), (.ref b789)])) rfl (by rw [hml]; rfl) (Steps.refl _) (argsL := [(.int (1 : Int32)), (.int ((p1 &&& (2147483647 : Int32)) % (2 : Int32)))]) (rest := []) (lenOf pd_11 rfl) rfl (by show 2 * 0 + _ ≤ _; exact Nat.le_of_eq rfl) (hb hby at_180) (fun _ _ => ⟨rfl, rfl, (by decide : 21 + 0 ≤ _), (by decide : 72 + 0 ≤ _)⟩)
    dsimp only [Pt.U, Pt.locs, Pt.cells, Pt.slots] at X877 l877 y877 z877 st877 hQ877
    obtain rfl : k877 = 21 := y877
    obtain rfl : n877 = 72 := z877
    obtain ⟨rfl, N877q, K877, dom877⟩ := hQ877
    have N877 : Fr n0 L877 := by rw [l877]; exact Fr.app N872 N877q
    have G880 : Go p e below A0 (T877.setTop (mkF m 183 #[.val (.int p0), .val (.int p1), .val (.int p2), .val (.int p3), .val (.int (1 : Int32)), .val (.int l5), .val (.int (1 : Int32)), .val (.int (0 : Int32)), .val (.int (2 : Int32)), .val (.int (3 : Int32)), .val (.int ((p0 &&& (2147483647 : Int32)) % (2 : Int32))), .val (.int ((p1 &&& (2147483647 : Int32)) % (2 : Int32))), .val (.int ((p2 &&& (2147483647 : Int32)) % (3 : Int32))), .val (.ref b714), .val (.ref b789), .val (.int (1 : Int32)), .unset, .unset, .unset, .unset, .unset, .unset] [(.int (own_b (¬ ((p1 &&& (2147483647 : Int32)) % (2 : Int32)) = ((p0 &&& (2147483647 : Int32)) % (2 : Int32)))))])) := fun tq kq => G876 tq (st877.trans kq)
    have G881 : Go p e below A0 (T877.setTop (mkF m 191 #[.val (.int p0), .val (.int p1), .val (.int p2), .val (.int p3), .val (.int (1 : Int32)), .val (.int l5), .val (.int (1 : Int32)), .val (.int (0 : Int32)), .val (.int (2 : Int32)), .val (.int (3 : Int32)), .val (.int ((p0 &&& (2147483647 : Int32)) % (2 : Int32))), .val (.int ((p1 &&& (2147483647 : Int32)) % (2 : Int32))), .val (.int ((p2 &&& (2147483647 : Int32)) % (3 : Int32))), .val (.ref b714), .val (.ref b789), .val (.int (1 : Int32)), .val (.int (own_b (¬ ((p1 &&& (2147483647 : Int32)) % (2 : Int32)) = ((p0 &&& (2147483647 : Int32)) % (2 : Int32))))), .unset, .unset, .unset, .unset, .unset] [(.int ((p2 &&& (2147483647 : Int32)) % (3 : Int32))), (.int (0 : Int32)), (.ref b789)])) := fun tq kq => G880 tq (by
      refine XS.istore X877.here hx rfl (hb hby at_183) rfl (l' := #[.val (.int p0), .val (.int p1), .val (.int p2), .val (.int p3), .val (.int (1 : Int32)), .val (.int l5), .val (.int (1 : Int32)), .val (.int (0 : Int32)), .val (.int (2 : Int32)), .val (.int (3 : Int32)), .val (.int ((p0 &&& (2147483647 : Int32)) % (2 : Int32))), .val (.int ((p1 &&& (2147483647 : Int32)) % (2 : Int32))), .val (.int ((p2 &&& (2147483647 : Int32)) % (3 : Int32))), .val (.ref b714), .val (.ref b789), .val (.int (1 : Int32)), .val (.int (own_b (¬ ((p1 &&& (2147483647 : Int32)) % (2 : Int32)) = ((p0 &&& (2147483647 : Int32)) % (2 : Int32))))), .unset, .unset, .unset, .unset, .unset]) rfl ?_
      show Steps p.tables e below (T877.setTop (mkF m 185 #[.val (.int p0), .val (.int p1), .val (.int p2), .val (.int p3), .val (.int (1 : Int32)), .val (.int l5), .val (.int (1 : Int32)), .val (.int (0 : Int32)), .val (.int (2 : Int32)), .val (.int (3 : Int32)), .val (.int ((p0 &&& (2147483647 : Int32)) % (2 : Int32))), .val (.int ((p1 &&& (2147483647 : Int32)) % (2 : Int32))), .val (.int ((p2 &&& (2147483647 : Int32)) % (3 : Int32))), .val (.ref b714), .val (.ref b789), .val (.int (1 : Int32)), .val (.int (own_b (¬ ((p1 &&& (2147483647 : Int32)) % (2 : Int32)) = ((p0 &&& (2147483647 : Int32)) % (2 : Int32))))), .unset, .unset, .unset, .unset, .unset] [])) _
      refine XS.aload X877.here hx rfl (hb hby at_185) rfl rfl ?_
      show Steps p.tables e below (T877.setTop (mkF m 187 #[.val (.int p0), .val (.int p1), .val (.int p2), .val (.int p3), .val (.int (1 : Int32)), .val (.int l5), .val (.int (1 : Int32)), .val (.int (0 : Int32)), .val (.int (2 : Int32)), .val (.int (3 : Int32)), .val (.int ((p0 &&& (2147483647 : Int32)) % (2 : Int32))), .val (.int ((p1 &&& (2147483647 : Int32)) % (2 : Int32))), .val (.int ((p2 &&& (2147483647 : Int32)) % (3 : Int32))), .val (.ref b714), .val (.ref b789), .val (.int (1 : Int32)), .val (.int (own_b (¬ ((p1 &&& (2147483647 : Int32)) % (2 : Int32)) = ((p0 &&& (2147483647 : Int32)) % (2 : Int32))))), .unset, .unset, .unset, .unset, .unset] [(.ref b789)])) _
      refine XS.iload X877.here hx rfl (hb hby at_187) rfl ?_
      show Steps p.tables e below (T877.setTop (mkF m 189 #[.val (.int p0), .val (.int p1), .val (.int p2), .val (.int p3), .val (.int (1 : Int32)), .val (.int l5), .val (.int (1 : Int32)), .val (.int (0 : Int32)), .val (.int (2 : Int32)), .val (.int (3 : Int32)), .val (.int ((p0 &&& (2147483647 : Int32)) % (2 : Int32))), .val (.int ((p1 &&& (2147483647 : Int32)) % (2 : Int32))), .val (.int ((p2 &&& (2147483647 : Int32)) % (3 : Int32))), .val (.ref b714), .val (.ref b789), .val (.int (1 : Int32)), .val (.int (own_b (¬ ((p1 &&& (2147483647 : Int32)) % (2 : Int32)) = ((p0 &&& (2147483647 : Int32)) % (2 : Int32))))), .unset, .unset, .unset, .unset, .unset] [(.int (0 : Int32)), (.ref b789)])) _
      refine XS.iload X877.here hx rfl (hb hby at_189) rfl ?_
      show Steps p.tables e below (T877.setTop (mkF m 191 #[.val (.int p0), .val (.int p1), .val (.int p2), .val (.int p3), .val (.int (1 : Int32)), .val (.int l5), .val (.int (1 : Int32)), .val (.int (0 : Int32)), .val (.int (2 : Int32)), .val (.int (3 : Int32)), .val (.int ((p0 &&& (2147483647 : Int32)) % (2 : Int32))), .val (.int ((p1 &&& (2147483647 : Int32)) % (2 : Int32))), .val (.int ((p2 &&& (2147483647 : Int32)) % (3 : Int32))), .val (.ref b714), .val (.ref b789), .val (.int (1 : Int32)), .val (.int (own_b (¬ ((p1 &&& (2147483647 : Int32)) % (2 : Int32)) = ((p0 &&& (2147483647 : Int32)) % (2 : Int32))))), .unset, .unset, .unset, .unset, .unset] [(.int ((p2 &&& (2147483647 : Int32)) % (3 : Int32))), (.int (0 : Int32)), (.ref b789)])) _
      exact kq)
    have f883 := (Nat.le_trans f878 K877.1)
    have f884 := (f879.keep K877)
    obtain ⟨cq882, kq882, q882a, q882b, q882c⟩ := isOf hZ rfl f884
    obtain ⟨_, _, ⟨T882, L882, k882, n882⟩, -, X882, ⟨Lc882, hQ882, l882, y882, z882⟩, st882⟩ := X877.virtualBack hx (y := (⟨"com/example/ludarc/ludarc/engine/Domains", "mark", "(II)Z"⟩ : MethodName)) (z := (⟨"com/example/ludarc/ludarc/engine/Domains", "mark", "(II)Z"⟩ : MethodName)) hown (mvT hZ (hw _ (List.mem_of_getElem? (i := 142) rfl))) (mvT hZ (hw _ (List.mem_of_getElem? (i := 143) rfl))) (notFace_of_selects (args := #[]) (mvT hZ (hw _ (List.mem_of_getElem? (i := 145) rfl)))) (mvT hZ (hw _ (List.mem_of_getElem? (i := 145) rfl))) (mvT hZ (hw _ (List.mem_of_getElem? (i := 144) rfl))) (by decide) (backOf (W := 0) (rmM0 l Z a0 hw [] b789 mem_ pos_ siz_ mrk_ m0_ p0_ k0_ m1_ p1_ k1_ (1 : Int32) (own_sz) (own_id) (own_id) (own_zero) (own_id) (own_id) (own_up (own_up (own_zero) (((p0 &&& (2147483647 : Int32)) % (2 : Int32))).toNatClampNeg (1 : Int32)) (((p1 &&& (2147483647 : Int32)) % (2 : Int32))).toNatClampNeg (1 : Int32)) (1 : Int32) ((p2 &&& (2147483647 : Int32)) % (3 : Int32)) T877.heap n0 f883 ord794 dom877 hc_ (own_bt (own_upz _))) hZ (hw _ (List.mem_of_getElem? (i := 146) rfl)) (hw _ (List.mem_of_getElem? (i := 87) rfl)) (by decide) (by decide)) q882a q882c (g := (mkF m 191 #[.val (.int p0), .val (.int p1), .val (.int p2), .val (.int p3), .val (.int (1 : Int32)), .val (.int l5), .val (.int (1 : Int32)), .val (.int (0 : Int32)), .val (.int (2 : Int32)), .val (.int (3 : Int32)), .val (.int ((p0 &&& (2147483647 : Int32)) % (2 : Int32))), .val (.int ((p1 &&& (2147483647 : Int32)) % (2 : Int32))), .val (.int ((p2 &&& (2147483647 : Int32)) % (3 : Int32))), .val (.ref b714), .val (.ref b789), .val (.int (1 : Int32)), .val (.int (own_b (¬ ((p1 &&& (2147483647 : Int32)) % (2 : Int32)) = ((p0 &&& (2147483647 : Int32)) % (2 : Int32))))), .unset, .unset, .unset, .unset, .unset] [(.int ((p2 &&& (2147483647 : Int32)) % (3 : Int32))), (.int (0 : Int32)), (.ref b789)])) rfl (by rw [hml]; rfl) (Steps.refl _) (argsL := [(.int (0 : Int32)), (.int ((p2 &&& (2147483647 : Int32)) % (3 : Int32)))]) (rest := []) (lenOf pd_11 rfl) rfl (by show 2 * 0 + _ ≤ _; exact Nat.le_of_eq rfl) (hb hby at_191) (fun _ _ => ⟨rfl, rfl, (by decide : 21 + 0 ≤ _), (by decide : 72 + 0 ≤ _)⟩)
    dsimp only [Pt.U, Pt.locs, Pt.cells, Pt.slots] at X882 l882 y882 z882 st882 hQ882
    obtain rfl : k882 = 21 := y882
    obtain rfl : n882 = 72 := z882
    obtain ⟨rfl, N882q, K882, dom882⟩ := hQ882
    have N882 : Fr n0 L882 := by rw [l882]; exact Fr.app N877 N882q
    have G885 : Go p e below A0 (T882.setTop (mkF m 194 #[.val (.int p0), .val (.int p1), .val (.int p2), .val (.int p3), .val (.int (1 : Int32)), .val (.int l5), .val (.int (1 : Int32)), .val (.int (0 : Int32)), .val (.int (2 : Int32)), .val (.int (3 : Int32)), .val (.int ((p0 &&& (2147483647 : Int32)) % (2 : Int32))), .val (.int ((p1 &&& (2147483647 : Int32)) % (2 : Int32))), .val (.int ((p2 &&& (2147483647 : Int32)) % (3 : Int32))), .val (.ref b714), .val (.ref b789), .val (.int (1 : Int32)), .val (.int (own_b (¬ ((p1 &&& (2147483647 : Int32)) % (2 : Int32)) = ((p0 &&& (2147483647 : Int32)) % (2 : Int32))))), .unset, .unset, .unset, .unset, .unset] [(.int (1 : Int32))])) := fun tq kq => G881 tq (st882.trans kq)
    have G886 : Go p e below A0 (T882.setTop (mkF m 202 #[.val (.int p0), .val (.int p1), .val (.int p2), .val (.int p3), .val (.int (1 : Int32)), .val (.int l5), .val (.int (1 : Int32)), .val (.int (0 : Int32)), .val (.int (2 : Int32)), .val (.int (3 : Int32)), .val (.int ((p0 &&& (2147483647 : Int32)) % (2 : Int32))), .val (.int ((p1 &&& (2147483647 : Int32)) % (2 : Int32))), .val (.int ((p2 &&& (2147483647 : Int32)) % (3 : Int32))), .val (.ref b714), .val (.ref b789), .val (.int (1 : Int32)), .val (.int (own_b (¬ ((p1 &&& (2147483647 : Int32)) % (2 : Int32)) = ((p0 &&& (2147483647 : Int32)) % (2 : Int32))))), .val (.int (1 : Int32)), .unset, .unset, .unset, .unset] [(.int ((p0 &&& (2147483647 : Int32)) % (2 : Int32))), (.int (1 : Int32)), (.ref b789)])) := fun tq kq => G885 tq (by
      refine XS.istore X882.here hx rfl (hb hby at_194) rfl (l' := #[.val (.int p0), .val (.int p1), .val (.int p2), .val (.int p3), .val (.int (1 : Int32)), .val (.int l5), .val (.int (1 : Int32)), .val (.int (0 : Int32)), .val (.int (2 : Int32)), .val (.int (3 : Int32)), .val (.int ((p0 &&& (2147483647 : Int32)) % (2 : Int32))), .val (.int ((p1 &&& (2147483647 : Int32)) % (2 : Int32))), .val (.int ((p2 &&& (2147483647 : Int32)) % (3 : Int32))), .val (.ref b714), .val (.ref b789), .val (.int (1 : Int32)), .val (.int (own_b (¬ ((p1 &&& (2147483647 : Int32)) % (2 : Int32)) = ((p0 &&& (2147483647 : Int32)) % (2 : Int32))))), .val (.int (1 : Int32)), .unset, .unset, .unset, .unset]) rfl ?_
      show Steps p.tables e below (T882.setTop (mkF m 196 #[.val (.int p0), .val (.int p1), .val (.int p2), .val (.int p3), .val (.int (1 : Int32)), .val (.int l5), .val (.int (1 : Int32)), .val (.int (0 : Int32)), .val (.int (2 : Int32)), .val (.int (3 : Int32)), .val (.int ((p0 &&& (2147483647 : Int32)) % (2 : Int32))), .val (.int ((p1 &&& (2147483647 : Int32)) % (2 : Int32))), .val (.int ((p2 &&& (2147483647 : Int32)) % (3 : Int32))), .val (.ref b714), .val (.ref b789), .val (.int (1 : Int32)), .val (.int (own_b (¬ ((p1 &&& (2147483647 : Int32)) % (2 : Int32)) = ((p0 &&& (2147483647 : Int32)) % (2 : Int32))))), .val (.int (1 : Int32)), .unset, .unset, .unset, .unset] [])) _
      refine XS.aload X882.here hx rfl (hb hby at_196) rfl rfl ?_
      show Steps p.tables e below (T882.setTop (mkF m 198 #[.val (.int p0), .val (.int p1), .val (.int p2), .val (.int p3), .val (.int (1 : Int32)), .val (.int l5), .val (.int (1 : Int32)), .val (.int (0 : Int32)), .val (.int (2 : Int32)), .val (.int (3 : Int32)), .val (.int ((p0 &&& (2147483647 : Int32)) % (2 : Int32))), .val (.int ((p1 &&& (2147483647 : Int32)) % (2 : Int32))), .val (.int ((p2 &&& (2147483647 : Int32)) % (3 : Int32))), .val (.ref b714), .val (.ref b789), .val (.int (1 : Int32)), .val (.int (own_b (¬ ((p1 &&& (2147483647 : Int32)) % (2 : Int32)) = ((p0 &&& (2147483647 : Int32)) % (2 : Int32))))), .val (.int (1 : Int32)), .unset, .unset, .unset, .unset] [(.ref b789)])) _
      refine XS.iload X882.here hx rfl (hb hby at_198) rfl ?_
      show Steps p.tables e below (T882.setTop (mkF m 200 #[.val (.int p0), .val (.int p1), .val (.int p2), .val (.int p3), .val (.int (1 : Int32)), .val (.int l5), .val (.int (1 : Int32)), .val (.int (0 : Int32)), .val (.int (2 : Int32)), .val (.int (3 : Int32)), .val (.int ((p0 &&& (2147483647 : Int32)) % (2 : Int32))), .val (.int ((p1 &&& (2147483647 : Int32)) % (2 : Int32))), .val (.int ((p2 &&& (2147483647 : Int32)) % (3 : Int32))), .val (.ref b714), .val (.ref b789), .val (.int (1 : Int32)), .val (.int (own_b (¬ ((p1 &&& (2147483647 : Int32)) % (2 : Int32)) = ((p0 &&& (2147483647 : Int32)) % (2 : Int32))))), .val (.int (1 : Int32)), .unset, .unset, .unset, .unset] [(.int (1 : Int32)), (.ref b789)])) _
      refine XS.iload X882.here hx rfl (hb hby at_200) rfl ?_
      show Steps p.tables e below (T882.setTop (mkF m 202 #[.val (.int p0), .val (.int p1), .val (.int p2), .val (.int p3), .val (.int (1 : Int32)), .val (.int l5), .val (.int (1 : Int32)), .val (.int (0 : Int32)), .val (.int (2 : Int32)), .val (.int (3 : Int32)), .val (.int ((p0 &&& (2147483647 : Int32)) % (2 : Int32))), .val (.int ((p1 &&& (2147483647 : Int32)) % (2 : Int32))), .val (.int ((p2 &&& (2147483647 : Int32)) % (3 : Int32))), .val (.ref b714), .val (.ref b789), .val (.int (1 : Int32)), .val (.int (own_b (¬ ((p1 &&& (2147483647 : Int32)) % (2 : Int32)) = ((p0 &&& (2147483647 : Int32)) % (2 : Int32))))), .val (.int (1 : Int32)), .unset, .unset, .unset, .unset] [(.int ((p0 &&& (2147483647 : Int32)) % (2 : Int32))), (.int (1 : Int32)), (.ref b789)])) _
      exact kq)
    have f888 := (Nat.le_trans f883 K882.1)
    have f889 := (f884.keep K882)
    obtain ⟨cq887, kq887, q887a, q887b, q887c⟩ := isOf hZ rfl f889
    obtain ⟨_, _, ⟨T887, L887, k887, n887⟩, -, X887, ⟨Lc887, hQ887, l887, y887, z887⟩, st887⟩ := X882.virtualBack hx (y := (⟨"com/example/ludarc/ludarc/engine/Domains", "mark", "(II)Z"⟩ : MethodName)) (z := (⟨"com/example/ludarc/ludarc/engine/Domains", "mark", "(II)Z"⟩ : MethodName)) hown (mvT hZ (hw _ (List.mem_of_getElem? (i := 142) rfl))) (mvT hZ (hw _ (List.mem_of_getElem? (i := 143) rfl))) (notFace_of_selects (args := #[]) (mvT hZ (hw _ (List.mem_of_getElem? (i := 145) rfl)))) (mvT hZ (hw _ (List.mem_of_getElem? (i := 145) rfl))) (mvT hZ (hw _ (List.mem_of_getElem? (i := 144) rfl))) (by decide) (backOf (W := 0) (rmM1 l Z a0 hw [] b789 mem_ pos_ siz_ mrk_ m0_ p0_ k0_ m1_ p1_ k1_ (1 : Int32) (own_sz) (own_id) (own_id) (own_up (own_zero) (((p2 &&& (2147483647 : Int32)) % (3 : Int32))).toNatClampNeg (1 : Int32)) (own_id) (own_id) (own_up (own_up (own_zero) (((p0 &&& (2147483647 : Int32)) % (2 : Int32))).toNatClampNeg (1 : Int32)) (((p1 &&& (2147483647 : Int32)) % (2 : Int32))).toNatClampNeg (1 : Int32)) (0 : Int32) ((p0 &&& (2147483647 : Int32)) % (2 : Int32)) T882.heap n0 f888 ord794 dom882 ha (own_b0 (fun q => q (by simp [own_up])))) hZ (hw _ (List.mem_of_getElem? (i := 146) rfl)) (hw _ (List.mem_of_getElem? (i := 87) rfl)) (by decide) (by decide)) q887a q887c (g := (mkF m 202 #[.val (.int p0), .val (.int p1), .val (.int p2), .val (.int p3), .val (.int (1 : Int32)), .val (.int l5), .val (.int (1 : Int32)), .val (.int (0 : Int32)), .val (.int (2 : Int32)), .val (.int (3 : Int32)), .val (.int ((p0 &&& (2147483647 : Int32)) % (2 : Int32))), .val (.int ((p1 &&& (2147483647 : Int32)) % (2 : Int32))), .val (.int ((p2 &&& (2147483647 : Int32)) % (3 : Int32))), .val (.ref b714), .val (.ref b789), .val (.int (1 : Int32)), .val (.int (own_b (¬ ((p1 &&& (2147483647 : Int32)) % (2 : Int32)) = ((p0 &&& (2147483647 : Int32)) % (2 : Int32))))), .val (.int (1 : Int32)), .unset, .unset, .unset, .unset] [(.int ((p0 &&& (2147483647 : Int32)) % (2 : Int32))), (.int (1 : Int32)), (.ref b789)])) rfl (by rw [hml]; rfl) (Steps.refl _) (argsL := [(.int (1 : Int32)), (.int ((p0 &&& (2147483647 : Int32)) % (2 : Int32)))]) (rest := []) (lenOf pd_11 rfl) rfl (by show 2 * 0 + _ ≤ _; exact Nat.le_of_eq rfl) (hb hby at_202) (fun _ _ => ⟨rfl, rfl, (by decide : 21 + 0 ≤ _), (by decide : 72 + 0 ≤ _)⟩)
    dsimp only [Pt.U, Pt.locs, Pt.cells, Pt.slots] at X887 l887 y887 z887 st887 hQ887
    obtain rfl : k887 = 21 := y887
    obtain rfl : n887 = 72 := z887
    obtain ⟨rfl, N887q, K887, dom887⟩ := hQ887
    have N887 : Fr n0 L887 := by rw [l887]; exact Fr.app N882 N887q
    have G890 : Go p e below A0 (T887.setTop (mkF m 205 #[.val (.int p0), .val (.int p1), .val (.int p2), .val (.int p3), .val (.int (1 : Int32)), .val (.int l5), .val (.int (1 : Int32)), .val (.int (0 : Int32)), .val (.int (2 : Int32)), .val (.int (3 : Int32)), .val (.int ((p0 &&& (2147483647 : Int32)) % (2 : Int32))), .val (.int ((p1 &&& (2147483647 : Int32)) % (2 : Int32))), .val (.int ((p2 &&& (2147483647 : Int32)) % (3 : Int32))), .val (.ref b714), .val (.ref b789), .val (.int (1 : Int32)), .val (.int (own_b (¬ ((p1 &&& (2147483647 : Int32)) % (2 : Int32)) = ((p0 &&& (2147483647 : Int32)) % (2 : Int32))))), .val (.int (1 : Int32)), .unset, .unset, .unset, .unset] [(.int (0 : Int32))])) := fun tq kq => G886 tq (st887.trans kq)
    have G891 : Go p e below A0 (T887.setTop (mkF m 207 #[.val (.int p0), .val (.int p1), .val (.int p2), .val (.int p3), .val (.int (1 : Int32)), .val (.int l5), .val (.int (1 : Int32)), .val (.int (0 : Int32)), .val (.int (2 : Int32)), .val (.int (3 : Int32)), .val (.int ((p0 &&& (2147483647 : Int32)) % (2 : Int32))), .val (.int ((p1 &&& (2147483647 : Int32)) % (2 : Int32))), .val (.int ((p2 &&& (2147483647 : Int32)) % (3 : Int32))), .val (.ref b714), .val (.ref b789), .val (.int (1 : Int32)), .val (.int (own_b (¬ ((p1 &&& (2147483647 : Int32)) % (2 : Int32)) = ((p0 &&& (2147483647 : Int32)) % (2 : Int32))))), .val (.int (1 : Int32)), .val (.int (0 : Int32)), .unset, .unset, .unset] [])) := fun tq kq => G890 tq (by
      refine XS.istore X887.here hx rfl (hb hby at_205) rfl (l' := #[.val (.int p0), .val (.int p1), .val (.int p2), .val (.int p3), .val (.int (1 : Int32)), .val (.int l5), .val (.int (1 : Int32)), .val (.int (0 : Int32)), .val (.int (2 : Int32)), .val (.int (3 : Int32)), .val (.int ((p0 &&& (2147483647 : Int32)) % (2 : Int32))), .val (.int ((p1 &&& (2147483647 : Int32)) % (2 : Int32))), .val (.int ((p2 &&& (2147483647 : Int32)) % (3 : Int32))), .val (.ref b714), .val (.ref b789), .val (.int (1 : Int32)), .val (.int (own_b (¬ ((p1 &&& (2147483647 : Int32)) % (2 : Int32)) = ((p0 &&& (2147483647 : Int32)) % (2 : Int32))))), .val (.int (1 : Int32)), .val (.int (0 : Int32)), .unset, .unset, .unset]) rfl ?_
      show Steps p.tables e below (T887.setTop (mkF m 207 #[.val (.int p0), .val (.int p1), .val (.int p2), .val (.int p3), .val (.int (1 : Int32)), .val (.int l5), .val (.int (1 : Int32)), .val (.int (0 : Int32)), .val (.int (2 : Int32)), .val (.int (3 : Int32)), .val (.int ((p0 &&& (2147483647 : Int32)) % (2 : Int32))), .val (.int ((p1 &&& (2147483647 : Int32)) % (2 : Int32))), .val (.int ((p2 &&& (2147483647 : Int32)) % (3 : Int32))), .val (.ref b714), .val (.ref b789), .val (.int (1 : Int32)), .val (.int (own_b (¬ ((p1 &&& (2147483647 : Int32)) % (2 : Int32)) = ((p0 &&& (2147483647 : Int32)) % (2 : Int32))))), .val (.int (1 : Int32)), .val (.int (0 : Int32)), .unset, .unset, .unset] [])) _
      exact kq)
    rcases h5 with rfl | rfl
    · skip
      have G892 : Go p e below A0 (T887.setTop (mkF m 223 #[.val (.int p0), .val (.int p1), .val (.int p2), .val (.int p3), .val (.int (1 : Int32)), .val (.int (0 : Int32)), .val (.int (1 : Int32)), .val (.int (0 : Int32)), .val (.int (2 : Int32)), .val (.int (3 : Int32)), .val (.int ((p0 &&& (2147483647 : Int32)) % (2 : Int32))), .val (.int ((p1 &&& (2147483647 : Int32)) % (2 : Int32))), .val (.int ((p2 &&& (2147483647 : Int32)) % (3 : Int32))), .val (.ref b714), .val (.ref b789), .val (.int (1 : Int32)), .val (.int (own_b (¬ ((p1 &&& (2147483647 : Int32)) % (2 : Int32)) = ((p0 &&& (2147483647 : Int32)) % (2 : Int32))))), .val (.int (1 : Int32)), .val (.int (0 : Int32)), .unset, .unset, .unset] [(.int ((p1 &&& (2147483647 : Int32)) % (2 : Int32))), (.int (1 : Int32)), (.ref b789)])) := fun tq kq => G891 tq (by
        refine XS.iload X887.here hx rfl (hb hby at_207) rfl ?_
        show Steps p.tables e below (T887.setTop (mkF m 209 #[.val (.int p0), .val (.int p1), .val (.int p2), .val (.int p3), .val (.int (1 : Int32)), .val (.int (0 : Int32)), .val (.int (1 : Int32)), .val (.int (0 : Int32)), .val (.int (2 : Int32)), .val (.int (3 : Int32)), .val (.int ((p0 &&& (2147483647 : Int32)) % (2 : Int32))), .val (.int ((p1 &&& (2147483647 : Int32)) % (2 : Int32))), .val (.int ((p2 &&& (2147483647 : Int32)) % (3 : Int32))), .val (.ref b714), .val (.ref b789), .val (.int (1 : Int32)), .val (.int (own_b (¬ ((p1 &&& (2147483647 : Int32)) % (2 : Int32)) = ((p0 &&& (2147483647 : Int32)) % (2 : Int32))))), .val (.int (1 : Int32)), .val (.int (0 : Int32)), .unset, .unset, .unset] [(.int (0 : Int32))])) _
        refine XS.ifYes X887.here hx rfl (pc0 := 209) (pc' := 217) rfl (hb hby at_209) rfl (by decide) (by decide) (by decide) ?_
        show Steps p.tables e below (T887.setTop (mkF m 217 #[.val (.int p0), .val (.int p1), .val (.int p2), .val (.int p3), .val (.int (1 : Int32)), .val (.int (0 : Int32)), .val (.int (1 : Int32)), .val (.int (0 : Int32)), .val (.int (2 : Int32)), .val (.int (3 : Int32)), .val (.int ((p0 &&& (2147483647 : Int32)) % (2 : Int32))), .val (.int ((p1 &&& (2147483647 : Int32)) % (2 : Int32))), .val (.int ((p2 &&& (2147483647 : Int32)) % (3 : Int32))), .val (.ref b714), .val (.ref b789), .val (.int (1 : Int32)), .val (.int (own_b (¬ ((p1 &&& (2147483647 : Int32)) % (2 : Int32)) = ((p0 &&& (2147483647 : Int32)) % (2 : Int32))))), .val (.int (1 : Int32)), .val (.int (0 : Int32)), .unset, .unset, .unset] [])) _
        refine XS.aload X887.here hx rfl (hb hby at_217) rfl rfl ?_
        show Steps p.tables e below (T887.setTop (mkF m 219 #[.val (.int p0), .val (.int p1), .val (.int p2), .val (.int p3), .val (.int (1 : Int32)), .val (.int (0 : Int32)), .val (.int (1 : Int32)), .val (.int (0 : Int32)), .val (.int (2 : Int32)), .val (.int (3 : Int32)), .val (.int ((p0 &&& (2147483647 : Int32)) % (2 : Int32))), .val (.int ((p1 &&& (2147483647 : Int32)) % (2 : Int32))), .val (.int ((p2 &&& (2147483647 : Int32)) % (3 : Int32))), .val (.ref b714), .val (.ref b789), .val (.int (1 : Int32)), .val (.int (own_b (¬ ((p1 &&& (2147483647 : Int32)) % (2 : Int32)) = ((p0 &&& (2147483647 : Int32)) % (2 : Int32))))), .val (.int (1 : Int32)), .val (.int (0 : Int32)), .unset, .unset, .unset] [(.ref b789)])) _
        refine XS.iload X887.here hx rfl (hb hby at_219) rfl ?_
        show Steps p.tables e below (T887.setTop (mkF m 221 #[.val (.int p0), .val (.int p1), .val (.int p2), .val (.int p3), .val (.int (1 : Int32)), .val (.int (0 : Int32)), .val (.int (1 : Int32)), .val (.int (0 : Int32)), .val (.int (2 : Int32)), .val (.int (3 : Int32)), .val (.int ((p0 &&& (2147483647 : Int32)) % (2 : Int32))), .val (.int ((p1 &&& (2147483647 : Int32)) % (2 : Int32))), .val (.int ((p2 &&& (2147483647 : Int32)) % (3 : Int32))), .val (.ref b714), .val (.ref b789), .val (.int (1 : Int32)), .val (.int (own_b (¬ ((p1 &&& (2147483647 : Int32)) % (2 : Int32)) = ((p0 &&& (2147483647 : Int32)) % (2 : Int32))))), .val (.int (1 : Int32)), .val (.int (0 : Int32)), .unset, .unset, .unset] [(.int (1 : Int32)), (.ref b789)])) _
        refine XS.iload X887.here hx rfl (hb hby at_221) rfl ?_
        show Steps p.tables e below (T887.setTop (mkF m 223 #[.val (.int p0), .val (.int p1), .val (.int p2), .val (.int p3), .val (.int (1 : Int32)), .val (.int (0 : Int32)), .val (.int (1 : Int32)), .val (.int (0 : Int32)), .val (.int (2 : Int32)), .val (.int (3 : Int32)), .val (.int ((p0 &&& (2147483647 : Int32)) % (2 : Int32))), .val (.int ((p1 &&& (2147483647 : Int32)) % (2 : Int32))), .val (.int ((p2 &&& (2147483647 : Int32)) % (3 : Int32))), .val (.ref b714), .val (.ref b789), .val (.int (1 : Int32)), .val (.int (own_b (¬ ((p1 &&& (2147483647 : Int32)) % (2 : Int32)) = ((p0 &&& (2147483647 : Int32)) % (2 : Int32))))), .val (.int (1 : Int32)), .val (.int (0 : Int32)), .unset, .unset, .unset] [(.int ((p1 &&& (2147483647 : Int32)) % (2 : Int32))), (.int (1 : Int32)), (.ref b789)])) _
        exact kq)
      have f894 := (Nat.le_trans f888 K887.1)
      have f895 := (f889.keep K887)
      obtain ⟨cq893, kq893, q893a, q893b, q893c⟩ := isOf hZ rfl f895
      obtain ⟨_, _, ⟨T893, L893, k893, n893⟩, -, X893, ⟨Lc893, hQ893, l893, y893, z893⟩, st893⟩ := X887.virtualBack hx (y := (⟨"com/example/ludarc/ludarc/engine/Domains", "mark", "(II)Z"⟩ : MethodName)) (z := (⟨"com/example/ludarc/ludarc/engine/Domains", "mark", "(II)Z"⟩ : MethodName)) hown (mvT hZ (hw _ (List.mem_of_getElem? (i := 142) rfl))) (mvT hZ (hw _ (List.mem_of_getElem? (i := 143) rfl))) (notFace_of_selects (args := #[]) (mvT hZ (hw _ (List.mem_of_getElem? (i := 145) rfl)))) (mvT hZ (hw _ (List.mem_of_getElem? (i := 145) rfl))) (mvT hZ (hw _ (List.mem_of_getElem? (i := 144) rfl))) (by decide) (backOf (W := 0) (rmM1 l Z a0 hw [] b789 mem_ pos_ siz_ mrk_ m0_ p0_ k0_ m1_ p1_ k1_ (1 : Int32) (own_sz) (own_id) (own_id) (own_up (own_zero) (((p2 &&& (2147483647 : Int32)) % (3 : Int32))).toNatClampNeg (1 : Int32)) (own_id) (own_id) (own_up (own_up (own_up (own_zero) (((p0 &&& (2147483647 : Int32)) % (2 : Int32))).toNatClampNeg (1 : Int32)) (((p1 &&& (2147483647 : Int32)) % (2 : Int32))).toNatClampNeg (1 : Int32)) (((p0 &&& (2147483647 : Int32)) % (2 : Int32))).toNatClampNeg (1 : Int32)) (0 : Int32) ((p1 &&& (2147483647 : Int32)) % (2 : Int32)) T887.heap n0 f894 ord794 dom887 hb_ (own_b0 (fun q => q (by simp [own_up])))) hZ (hw _ (List.mem_of_getElem? (i := 146) rfl)) (hw _ (List.mem_of_getElem? (i := 87) rfl)) (by decide) (by decide)) q893a q893c (g := (mkF m 223 #[.val (.int p0), .val (.int p1), .val (.int p2), .val (.int p3), .val (.int (1 : Int32)), .val (.int (0 : Int32)), .val (.int (1 : Int32)), .val (.int (0 : Int32)), .val (.int (2 : Int32)), .val (.int (3 : Int32)), .val (.int ((p0 &&& (2147483647 : Int32)) % (2 : Int32))), .val (.int ((p1 &&& (2147483647 : Int32)) % (2 : Int32))), .val (.int ((p2 &&& (2147483647 : Int32)) % (3 : Int32))), .val (.ref b714), .val (.ref b789), .val (.int (1 : Int32)), .val (.int (own_b (¬ ((p1 &&& (2147483647 : Int32)) % (2 : Int32)) = ((p0 &&& (2147483647 : Int32)) % (2 : Int32))))), .val (.int (1 : Int32)), .val (.int (0 : Int32)), .unset, .unset, .unset] [(.int ((p1 &&& (2147483647 : Int32)) % (2 : Int32))), (.int (1 : Int32)), (.ref b789)])) rfl (by rw [hml]; rfl) (Steps.refl _) (argsL := [(.int (1 : Int32)), (.int ((p1 &&& (2147483647 : Int32)) % (2 : Int32)))]) (rest := []) (lenOf pd_11 rfl) rfl (by show 2 * 0 + _ ≤ _; exact Nat.le_of_eq rfl) (hb hby at_223) (fun _ _ => ⟨rfl, rfl, (by decide : 21 + 0 ≤ _), (by decide : 72 + 0 ≤ _)⟩)
      dsimp only [Pt.U, Pt.locs, Pt.cells, Pt.slots] at X893 l893 y893 z893 st893 hQ893
      obtain rfl : k893 = 21 := y893
      obtain rfl : n893 = 72 := z893
      obtain ⟨rfl, N893q, K893, dom893⟩ := hQ893
      have N893 : Fr n0 L893 := by rw [l893]; exact Fr.app N887 N893q
      have G896 : Go p e below A0 (T893.setTop (mkF m 226 #[.val (.int p0), .val (.int p1), .val (.int p2), .val (.int p3), .val (.int (1 : Int32)), .val (.int (0 : Int32)), .val (.int (1 : Int32)), .val (.int (0 : Int32)), .val (.int (2 : Int32)), .val (.int (3 : Int32)), .val (.int ((p0 &&& (2147483647 : Int32)) % (2 : Int32))), .val (.int ((p1 &&& (2147483647 : Int32)) % (2 : Int32))), .val (.int ((p2 &&& (2147483647 : Int32)) % (3 : Int32))), .val (.ref b714), .val (.ref b789), .val (.int (1 : Int32)), .val (.int (own_b (¬ ((p1 &&& (2147483647 : Int32)) % (2 : Int32)) = ((p0 &&& (2147483647 : Int32)) % (2 : Int32))))), .val (.int (1 : Int32)), .val (.int (0 : Int32)), .unset, .unset, .unset] [(.int (0 : Int32))])) := fun tq kq => G892 tq (st893.trans kq)
      have G897 : Go p e below A0 (T893.setTop (mkF m 234 #[.val (.int p0), .val (.int p1), .val (.int p2), .val (.int p3), .val (.int (1 : Int32)), .val (.int (0 : Int32)), .val (.int (1 : Int32)), .val (.int (0 : Int32)), .val (.int (2 : Int32)), .val (.int (3 : Int32)), .val (.int ((p0 &&& (2147483647 : Int32)) % (2 : Int32))), .val (.int ((p1 &&& (2147483647 : Int32)) % (2 : Int32))), .val (.int ((p2 &&& (2147483647 : Int32)) % (3 : Int32))), .val (.ref b714), .val (.ref b789), .val (.int (1 : Int32)), .val (.int (own_b (¬ ((p1 &&& (2147483647 : Int32)) % (2 : Int32)) = ((p0 &&& (2147483647 : Int32)) % (2 : Int32))))), .val (.int (1 : Int32)), .val (.int (0 : Int32)), .val (.int (0 : Int32)), .unset, .unset] [(.int ((p2 &&& (2147483647 : Int32)) % (3 : Int32))), (.int (0 : Int32)), (.ref b789)])) := fun tq kq => G896 tq (by
        refine XS.istore X893.here hx rfl (hb hby at_226) rfl (l' := #[.val (.int p0), .val (.int p1), .val (.int p2), .val (.int p3), .val (.int (1 : Int32)), .val (.int (0 : Int32)), .val (.int (1 : Int32)), .val (.int (0 : Int32)), .val (.int (2 : Int32)), .val (.int (3 : Int32)), .val (.int ((p0 &&& (2147483647 : Int32)) % (2 : Int32))), .val (.int ((p1 &&& (2147483647 : Int32)) % (2 : Int32))), .val (.int ((p2 &&& (2147483647 : Int32)) % (3 : Int32))), .val (.ref b714), .val (.ref b789), .val (.int (1 : Int32)), .val (.int (own_b (¬ ((p1 &&& (2147483647 : Int32)) % (2 : Int32)) = ((p0 &&& (2147483647 : Int32)) % (2 : Int32))))), .val (.int (1 : Int32)), .val (.int (0 : Int32)), .val (.int (0 : Int32)), .unset, .unset]) rfl ?_
        show Steps p.tables e below (T893.setTop (mkF m 228 #[.val (.int p0), .val (.int p1), .val (.int p2), .val (.int p3), .val (.int (1 : Int32)), .val (.int (0 : Int32)), .val (.int (1 : Int32)), .val (.int (0 : Int32)), .val (.int (2 : Int32)), .val (.int (3 : Int32)), .val (.int ((p0 &&& (2147483647 : Int32)) % (2 : Int32))), .val (.int ((p1 &&& (2147483647 : Int32)) % (2 : Int32))), .val (.int ((p2 &&& (2147483647 : Int32)) % (3 : Int32))), .val (.ref b714), .val (.ref b789), .val (.int (1 : Int32)), .val (.int (own_b (¬ ((p1 &&& (2147483647 : Int32)) % (2 : Int32)) = ((p0 &&& (2147483647 : Int32)) % (2 : Int32))))), .val (.int (1 : Int32)), .val (.int (0 : Int32)), .val (.int (0 : Int32)), .unset, .unset] [])) _
        refine XS.aload X893.here hx rfl (hb hby at_228) rfl rfl ?_
        show Steps p.tables e below (T893.setTop (mkF m 230 #[.val (.int p0), .val (.int p1), .val (.int p2), .val (.int p3), .val (.int (1 : Int32)), .val (.int (0 : Int32)), .val (.int (1 : Int32)), .val (.int (0 : Int32)), .val (.int (2 : Int32)), .val (.int (3 : Int32)), .val (.int ((p0 &&& (2147483647 : Int32)) % (2 : Int32))), .val (.int ((p1 &&& (2147483647 : Int32)) % (2 : Int32))), .val (.int ((p2 &&& (2147483647 : Int32)) % (3 : Int32))), .val (.ref b714), .val (.ref b789), .val (.int (1 : Int32)), .val (.int (own_b (¬ ((p1 &&& (2147483647 : Int32)) % (2 : Int32)) = ((p0 &&& (2147483647 : Int32)) % (2 : Int32))))), .val (.int (1 : Int32)), .val (.int (0 : Int32)), .val (.int (0 : Int32)), .unset, .unset] [(.ref b789)])) _
        refine XS.iload X893.here hx rfl (hb hby at_230) rfl ?_
        show Steps p.tables e below (T893.setTop (mkF m 232 #[.val (.int p0), .val (.int p1), .val (.int p2), .val (.int p3), .val (.int (1 : Int32)), .val (.int (0 : Int32)), .val (.int (1 : Int32)), .val (.int (0 : Int32)), .val (.int (2 : Int32)), .val (.int (3 : Int32)), .val (.int ((p0 &&& (2147483647 : Int32)) % (2 : Int32))), .val (.int ((p1 &&& (2147483647 : Int32)) % (2 : Int32))), .val (.int ((p2 &&& (2147483647 : Int32)) % (3 : Int32))), .val (.ref b714), .val (.ref b789), .val (.int (1 : Int32)), .val (.int (own_b (¬ ((p1 &&& (2147483647 : Int32)) % (2 : Int32)) = ((p0 &&& (2147483647 : Int32)) % (2 : Int32))))), .val (.int (1 : Int32)), .val (.int (0 : Int32)), .val (.int (0 : Int32)), .unset, .unset] [(.int (0 : Int32)), (.ref b789)])) _
        refine XS.iload X893.here hx rfl (hb hby at_232) rfl ?_
        show Steps p.tables e below (T893.setTop (mkF m 234 #[.val (.int p0), .val (.int p1), .val (.int p2), .val (.int p3), .val (.int (1 : Int32)), .val (.int (0 : Int32)), .val (.int (1 : Int32)), .val (.int (0 : Int32)), .val (.int (2 : Int32)), .val (.int (3 : Int32)), .val (.int ((p0 &&& (2147483647 : Int32)) % (2 : Int32))), .val (.int ((p1 &&& (2147483647 : Int32)) % (2 : Int32))), .val (.int ((p2 &&& (2147483647 : Int32)) % (3 : Int32))), .val (.ref b714), .val (.ref b789), .val (.int (1 : Int32)), .val (.int (own_b (¬ ((p1 &&& (2147483647 : Int32)) % (2 : Int32)) = ((p0 &&& (2147483647 : Int32)) % (2 : Int32))))), .val (.int (1 : Int32)), .val (.int (0 : Int32)), .val (.int (0 : Int32)), .unset, .unset] [(.int ((p2 &&& (2147483647 : Int32)) % (3 : Int32))), (.int (0 : Int32)), (.ref b789)])) _
        exact kq)
      have f899 := (Nat.le_trans f894 K893.1)
      have f900 := (f895.keep K893)
      obtain ⟨cq898, kq898, q898a, q898b, q898c⟩ := isOf hZ rfl f900
      obtain ⟨_, _, ⟨T898, L898, k898, n898⟩, -, X898, ⟨Lc898, hQ898, l898, y898, z898⟩, st898⟩ := X893.virtualBack hx (y := (⟨"com/example/ludarc/ludarc/engine/Domains", "isMarked", "(II)Z"⟩ : MethodName)) (z := (⟨"com/example/ludarc/ludarc/engine/Domains", "isMarked", "(II)Z"⟩ : MethodName)) hown (mvT hZ (hw _ (List.mem_of_getElem? (i := 147) rfl))) (mvT hZ (hw _ (List.mem_of_getElem? (i := 148) rfl))) (notFace_of_selects (args := #[]) (mvT hZ (hw _ (List.mem_of_getElem? (i := 150) rfl)))) (mvT hZ (hw _ (List.mem_of_getElem? (i := 150) rfl))) (mvT hZ (hw _ (List.mem_of_getElem? (i := 149) rfl))) (by decide) (backOf (W := 0) (rmI0 l Z a0 hw [] b789 mem_ pos_ siz_ mrk_ m0_ p0_ k0_ m1_ p1_ k1_ (1 : Int32) (own_sz) (own_id) (own_id) (own_up (own_zero) (((p2 &&& (2147483647 : Int32)) % (3 : Int32))).toNatClampNeg (1 : Int32)) (own_id) (own_id) (own_up (own_up (own_up (own_up (own_zero) (((p0 &&& (2147483647 : Int32)) % (2 : Int32))).toNatClampNeg (1 : Int32)) (((p1 &&& (2147483647 : Int32)) % (2 : Int32))).toNatClampNeg (1 : Int32)) (((p0 &&& (2147483647 : Int32)) % (2 : Int32))).toNatClampNeg (1 : Int32)) (((p1 &&& (2147483647 : Int32)) % (2 : Int32))).toNatClampNeg (1 : Int32)) (1 : Int32) ((p2 &&& (2147483647 : Int32)) % (3 : Int32)) T893.heap n0 f899 ord794 dom893 hc_ (own_bt (by simp [own_up]))) hZ (hw _ (List.mem_of_getElem? (i := 151) rfl)) (hw _ (List.mem_of_getElem? (i := 87) rfl)) (by decide) (by decide)) q898a q898c (g := (mkF m 234 #[.val (.int p0), .val (.int p1), .val (.int p2), .val (.int p3), .val (.int (1 : Int32)), .val (.int (0 : Int32)), .val (.int (1 : Int32)), .val (.int (0 : Int32)), .val (.int (2 : Int32)), .val (.int (3 : Int32)), .val (.int ((p0 &&& (2147483647 : Int32)) % (2 : Int32))), .val (.int ((p1 &&& (2147483647 : Int32)) % (2 : Int32))), .val (.int ((p2 &&& (2147483647 : Int32)) % (3 : Int32))), .val (.ref b714), .val (.ref b789), .val (.int (1 : Int32)), .val (.int (own_b (¬ ((p1 &&& (2147483647 : Int32)) % (2 : Int32)) = ((p0 &&& (2147483647 : Int32)) % (2 : Int32))))), .val (.int (1 : Int32)), .val (.int (0 : Int32)), .val (.int (0 : Int32)), .unset, .unset] [(.int ((p2 &&& (2147483647 : Int32)) % (3 : Int32))), (.int (0 : Int32)), (.ref b789)])) rfl (by rw [hml]; rfl) (Steps.refl _) (argsL := [(.int (0 : Int32)), (.int ((p2 &&& (2147483647 : Int32)) % (3 : Int32)))]) (rest := []) (lenOf pd_11 rfl) rfl (by show 2 * 0 + _ ≤ _; exact Nat.le_of_eq rfl) (hb hby at_234) (fun _ _ => ⟨rfl, rfl, (by decide : 21 + 0 ≤ _), (by decide : 72 + 0 ≤ _)⟩)
      dsimp only [Pt.U, Pt.locs, Pt.cells, Pt.slots] at X898 l898 y898 z898 st898 hQ898
      obtain rfl : k898 = 21 := y898
      obtain rfl : n898 = 72 := z898
      obtain ⟨rfl, N898q, e898⟩ := hQ898
      have N898 : Fr n0 L898 := by rw [l898]; exact Fr.app N893 N898q
      have G901 : Go p e below A0 (T898.setTop (mkF m 237 #[.val (.int p0), .val (.int p1), .val (.int p2), .val (.int p3), .val (.int (1 : Int32)), .val (.int (0 : Int32)), .val (.int (1 : Int32)), .val (.int (0 : Int32)), .val (.int (2 : Int32)), .val (.int (3 : Int32)), .val (.int ((p0 &&& (2147483647 : Int32)) % (2 : Int32))), .val (.int ((p1 &&& (2147483647 : Int32)) % (2 : Int32))), .val (.int ((p2 &&& (2147483647 : Int32)) % (3 : Int32))), .val (.ref b714), .val (.ref b789), .val (.int (1 : Int32)), .val (.int (own_b (¬ ((p1 &&& (2147483647 : Int32)) % (2 : Int32)) = ((p0 &&& (2147483647 : Int32)) % (2 : Int32))))), .val (.int (1 : Int32)), .val (.int (0 : Int32)), .val (.int (0 : Int32)), .unset, .unset] [(.int (1 : Int32))])) := fun tq kq => G897 tq (st898.trans kq)
      have G902 : Go p e below A0 (T898.setTop (mkF m 250 #[.val (.int p0), .val (.int p1), .val (.int p2), .val (.int p3), .val (.int (1 : Int32)), .val (.int (0 : Int32)), .val (.int (1 : Int32)), .val (.int (0 : Int32)), .val (.int (2 : Int32)), .val (.int (3 : Int32)), .val (.int ((p0 &&& (2147483647 : Int32)) % (2 : Int32))), .val (.int ((p1 &&& (2147483647 : Int32)) % (2 : Int32))), .val (.int ((p2 &&& (2147483647 : Int32)) % (3 : Int32))), .val (.ref b714), .val (.ref b789), .val (.int (1 : Int32)), .val (.int (own_b (¬ ((p1 &&& (2147483647 : Int32)) % (2 : Int32)) = ((p0 &&& (2147483647 : Int32)) % (2 : Int32))))), .val (.int (1 : Int32)), .val (.int (0 : Int32)), .val (.int (0 : Int32)), .val (.int (1 : Int32)), .val (.int (1 : Int32))] [(.int (own_b (¬ ((p1 &&& (2147483647 : Int32)) % (2 : Int32)) = ((p0 &&& (2147483647 : Int32)) % (2 : Int32)))))])) := fun tq kq => G901 tq (by
        refine XS.istore X898.here hx rfl (hb hby at_237) rfl (l' := #[.val (.int p0), .val (.int p1), .val (.int p2), .val (.int p3), .val (.int (1 : Int32)), .val (.int (0 : Int32)), .val (.int (1 : Int32)), .val (.int (0 : Int32)), .val (.int (2 : Int32)), .val (.int (3 : Int32)), .val (.int ((p0 &&& (2147483647 : Int32)) % (2 : Int32))), .val (.int ((p1 &&& (2147483647 : Int32)) % (2 : Int32))), .val (.int ((p2 &&& (2147483647 : Int32)) % (3 : Int32))), .val (.ref b714), .val (.ref b789), .val (.int (1 : Int32)), .val (.int (own_b (¬ ((p1 &&& (2147483647 : Int32)) % (2 : Int32)) = ((p0 &&& (2147483647 : Int32)) % (2 : Int32))))), .val (.int (1 : Int32)), .val (.int (0 : Int32)), .val (.int (0 : Int32)), .val (.int (1 : Int32)), .unset]) rfl ?_
        show Steps p.tables e below (T898.setTop (mkF m 239 #[.val (.int p0), .val (.int p1), .val (.int p2), .val (.int p3), .val (.int (1 : Int32)), .val (.int (0 : Int32)), .val (.int (1 : Int32)), .val (.int (0 : Int32)), .val (.int (2 : Int32)), .val (.int (3 : Int32)), .val (.int ((p0 &&& (2147483647 : Int32)) % (2 : Int32))), .val (.int ((p1 &&& (2147483647 : Int32)) % (2 : Int32))), .val (.int ((p2 &&& (2147483647 : Int32)) % (3 : Int32))), .val (.ref b714), .val (.ref b789), .val (.int (1 : Int32)), .val (.int (own_b (¬ ((p1 &&& (2147483647 : Int32)) % (2 : Int32)) = ((p0 &&& (2147483647 : Int32)) % (2 : Int32))))), .val (.int (1 : Int32)), .val (.int (0 : Int32)), .val (.int (0 : Int32)), .val (.int (1 : Int32)), .unset] [])) _
        refine XS.iload X898.here hx rfl (hb hby at_239) rfl ?_
        show Steps p.tables e below (T898.setTop (mkF m 241 #[.val (.int p0), .val (.int p1), .val (.int p2), .val (.int p3), .val (.int (1 : Int32)), .val (.int (0 : Int32)), .val (.int (1 : Int32)), .val (.int (0 : Int32)), .val (.int (2 : Int32)), .val (.int (3 : Int32)), .val (.int ((p0 &&& (2147483647 : Int32)) % (2 : Int32))), .val (.int ((p1 &&& (2147483647 : Int32)) % (2 : Int32))), .val (.int ((p2 &&& (2147483647 : Int32)) % (3 : Int32))), .val (.ref b714), .val (.ref b789), .val (.int (1 : Int32)), .val (.int (own_b (¬ ((p1 &&& (2147483647 : Int32)) % (2 : Int32)) = ((p0 &&& (2147483647 : Int32)) % (2 : Int32))))), .val (.int (1 : Int32)), .val (.int (0 : Int32)), .val (.int (0 : Int32)), .val (.int (1 : Int32)), .unset] [(.int (1 : Int32))])) _
        refine XS.istore X898.here hx rfl (hb hby at_241) rfl (l' := #[.val (.int p0), .val (.int p1), .val (.int p2), .val (.int p3), .val (.int (1 : Int32)), .val (.int (0 : Int32)), .val (.int (1 : Int32)), .val (.int (0 : Int32)), .val (.int (2 : Int32)), .val (.int (3 : Int32)), .val (.int ((p0 &&& (2147483647 : Int32)) % (2 : Int32))), .val (.int ((p1 &&& (2147483647 : Int32)) % (2 : Int32))), .val (.int ((p2 &&& (2147483647 : Int32)) % (3 : Int32))), .val (.ref b714), .val (.ref b789), .val (.int (1 : Int32)), .val (.int (own_b (¬ ((p1 &&& (2147483647 : Int32)) % (2 : Int32)) = ((p0 &&& (2147483647 : Int32)) % (2 : Int32))))), .val (.int (1 : Int32)), .val (.int (0 : Int32)), .val (.int (0 : Int32)), .val (.int (1 : Int32)), .val (.int (1 : Int32))]) rfl ?_
        show Steps p.tables e below (T898.setTop (mkF m 243 #[.val (.int p0), .val (.int p1), .val (.int p2), .val (.int p3), .val (.int (1 : Int32)), .val (.int (0 : Int32)), .val (.int (1 : Int32)), .val (.int (0 : Int32)), .val (.int (2 : Int32)), .val (.int (3 : Int32)), .val (.int ((p0 &&& (2147483647 : Int32)) % (2 : Int32))), .val (.int ((p1 &&& (2147483647 : Int32)) % (2 : Int32))), .val (.int ((p2 &&& (2147483647 : Int32)) % (3 : Int32))), .val (.ref b714), .val (.ref b789), .val (.int (1 : Int32)), .val (.int (own_b (¬ ((p1 &&& (2147483647 : Int32)) % (2 : Int32)) = ((p0 &&& (2147483647 : Int32)) % (2 : Int32))))), .val (.int (1 : Int32)), .val (.int (0 : Int32)), .val (.int (0 : Int32)), .val (.int (1 : Int32)), .val (.int (1 : Int32))] [])) _
        refine XS.iload X898.here hx rfl (hb hby at_243) rfl ?_
        show Steps p.tables e below (T898.setTop (mkF m 245 #[.val (.int p0), .val (.int p1), .val (.int p2), .val (.int p3), .val (.int (1 : Int32)), .val (.int (0 : Int32)), .val (.int (1 : Int32)), .val (.int (0 : Int32)), .val (.int (2 : Int32)), .val (.int (3 : Int32)), .val (.int ((p0 &&& (2147483647 : Int32)) % (2 : Int32))), .val (.int ((p1 &&& (2147483647 : Int32)) % (2 : Int32))), .val (.int ((p2 &&& (2147483647 : Int32)) % (3 : Int32))), .val (.ref b714), .val (.ref b789), .val (.int (1 : Int32)), .val (.int (own_b (¬ ((p1 &&& (2147483647 : Int32)) % (2 : Int32)) = ((p0 &&& (2147483647 : Int32)) % (2 : Int32))))), .val (.int (1 : Int32)), .val (.int (0 : Int32)), .val (.int (0 : Int32)), .val (.int (1 : Int32)), .val (.int (1 : Int32))] [(.int (1 : Int32))])) _
        refine XS.ifNo X898.here hx rfl (hb hby at_245) rfl (by decide) ?_
        show Steps p.tables e below (T898.setTop (mkF m 248 #[.val (.int p0), .val (.int p1), .val (.int p2), .val (.int p3), .val (.int (1 : Int32)), .val (.int (0 : Int32)), .val (.int (1 : Int32)), .val (.int (0 : Int32)), .val (.int (2 : Int32)), .val (.int (3 : Int32)), .val (.int ((p0 &&& (2147483647 : Int32)) % (2 : Int32))), .val (.int ((p1 &&& (2147483647 : Int32)) % (2 : Int32))), .val (.int ((p2 &&& (2147483647 : Int32)) % (3 : Int32))), .val (.ref b714), .val (.ref b789), .val (.int (1 : Int32)), .val (.int (own_b (¬ ((p1 &&& (2147483647 : Int32)) % (2 : Int32)) = ((p0 &&& (2147483647 : Int32)) % (2 : Int32))))), .val (.int (1 : Int32)), .val (.int (0 : Int32)), .val (.int (0 : Int32)), .val (.int (1 : Int32)), .val (.int (1 : Int32))] [])) _
        refine XS.iload X898.here hx rfl (hb hby at_248) rfl ?_
        show Steps p.tables e below (T898.setTop (mkF m 250 #[.val (.int p0), .val (.int p1), .val (.int p2), .val (.int p3), .val (.int (1 : Int32)), .val (.int (0 : Int32)), .val (.int (1 : Int32)), .val (.int (0 : Int32)), .val (.int (2 : Int32)), .val (.int (3 : Int32)), .val (.int ((p0 &&& (2147483647 : Int32)) % (2 : Int32))), .val (.int ((p1 &&& (2147483647 : Int32)) % (2 : Int32))), .val (.int ((p2 &&& (2147483647 : Int32)) % (3 : Int32))), .val (.ref b714), .val (.ref b789), .val (.int (1 : Int32)), .val (.int (own_b (¬ ((p1 &&& (2147483647 : Int32)) % (2 : Int32)) = ((p0 &&& (2147483647 : Int32)) % (2 : Int32))))), .val (.int (1 : Int32)), .val (.int (0 : Int32)), .val (.int (0 : Int32)), .val (.int (1 : Int32)), .val (.int (1 : Int32))] [(.int (own_b (¬ ((p1 &&& (2147483647 : Int32)) % (2 : Int32)) = ((p0 &&& (2147483647 : Int32)) % (2 : Int32)))))])) _
        exact kq)
      obtain ⟨ne_, hG903, G903⟩ : ∃ (ne_ : Int32), (ne_ = own_b (¬ ((p1 &&& (2147483647 : Int32)) % (2 : Int32)) = ((p0 &&& (2147483647 : Int32)) % (2 : Int32)))) ∧ Go p e below A0 (T898.setTop (mkF m 262 #[.val (.int p0), .val (.int p1), .val (.int p2), .val (.int p3), .val (.int (1 : Int32)), .val (.int (0 : Int32)), .val (.int (1 : Int32)), .val (.int (0 : Int32)), .val (.int (2 : Int32)), .val (.int (3 : Int32)), .val (.int ((p0 &&& (2147483647 : Int32)) % (2 : Int32))), .val (.int ((p1 &&& (2147483647 : Int32)) % (2 : Int32))), .val (.int ((p2 &&& (2147483647 : Int32)) % (3 : Int32))), .val (.ref b714), .val (.ref b789), .val (.int (1 : Int32)), .val (.int (own_b (¬ ((p1 &&& (2147483647 : Int32)) % (2 : Int32)) = ((p0 &&& (2147483647 : Int32)) % (2 : Int32))))), .val (.int (1 : Int32)), .val (.int (0 : Int32)), .val (.int (0 : Int32)), .val (.int (1 : Int32)), .val (.int (1 : Int32))] [(.int ne_), (.int (own_b (¬ ((p1 &&& (2147483647 : Int32)) % (2 : Int32)) = ((p0 &&& (2147483647 : Int32)) % (2 : Int32)))))])) := by
        have G904 : Go p e below A0 (T898.setTop (mkF m 254 #[.val (.int p0), .val (.int p1), .val (.int p2), .val (.int p3), .val (.int (1 : Int32)), .val (.int (0 : Int32)), .val (.int (1 : Int32)), .val (.int (0 : Int32)), .val (.int (2 : Int32)), .val (.int (3 : Int32)), .val (.int ((p0 &&& (2147483647 : Int32)) % (2 : Int32))), .val (.int ((p1 &&& (2147483647 : Int32)) % (2 : Int32))), .val (.int ((p2 &&& (2147483647 : Int32)) % (3 : Int32))), .val (.ref b714), .val (.ref b789), .val (.int (1 : Int32)), .val (.int (own_b (¬ ((p1 &&& (2147483647 : Int32)) % (2 : Int32)) = ((p0 &&& (2147483647 : Int32)) % (2 : Int32))))), .val (.int (1 : Int32)), .val (.int (0 : Int32)), .val (.int (0 : Int32)), .val (.int (1 : Int32)), .val (.int (1 : Int32))] [(.int ((p0 &&& (2147483647 : Int32)) % (2 : Int32))), (.int ((p1 &&& (2147483647 : Int32)) % (2 : Int32))), (.int (own_b (¬ ((p1 &&& (2147483647 : Int32)) % (2 : Int32)) = ((p0 &&& (2147483647 : Int32)) % (2 : Int32)))))])) := fun tq kq => G902 tq (by
          refine XS.iload X898.here hx rfl (hb hby at_250) rfl ?_
          show Steps p.tables e below (T898.setTop (mkF m 252 #[.val (.int p0), .val (.int p1), .val (.int p2), .val (.int p3), .val (.int (1 : Int32)), .val (.int (0 : Int32)), .val (.int (1 : Int32)), .val (.int (0 : Int32)), .val (.int (2 : Int32)), .val (.int (3 : Int32)), .val (.int ((p0 &&& (2147483647 : Int32)) % (2 : Int32))), .val (.int ((p1 &&& (2147483647 : Int32)) % (2 : Int32))), .val (.int ((p2 &&& (2147483647 : Int32)) % (3 : Int32))), .val (.ref b714), .val (.ref b789), .val (.int (1 : Int32)), .val (.int (own_b (¬ ((p1 &&& (2147483647 : Int32)) % (2 : Int32)) = ((p0 &&& (2147483647 : Int32)) % (2 : Int32))))), .val (.int (1 : Int32)), .val (.int (0 : Int32)), .val (.int (0 : Int32)), .val (.int (1 : Int32)), .val (.int (1 : Int32))] [(.int ((p1 &&& (2147483647 : Int32)) % (2 : Int32))), (.int (own_b (¬ ((p1 &&& (2147483647 : Int32)) % (2 : Int32)) = ((p0 &&& (2147483647 : Int32)) % (2 : Int32)))))])) _
          refine XS.iload X898.here hx rfl (hb hby at_252) rfl ?_
          show Steps p.tables e below (T898.setTop (mkF m 254 #[.val (.int p0), .val (.int p1), .val (.int p2), .val (.int p3), .val (.int (1 : Int32)), .val (.int (0 : Int32)), .val (.int (1 : Int32)), .val (.int (0 : Int32)), .val (.int (2 : Int32)), .val (.int (3 : Int32)), .val (.int ((p0 &&& (2147483647 : Int32)) % (2 : Int32))), .val (.int ((p1 &&& (2147483647 : Int32)) % (2 : Int32))), .val (.int ((p2 &&& (2147483647 : Int32)) % (3 : Int32))), .val (.ref b714), .val (.ref b789), .val (.int (1 : Int32)), .val (.int (own_b (¬ ((p1 &&& (2147483647 : Int32)) % (2 : Int32)) = ((p0 &&& (2147483647 : Int32)) % (2 : Int32))))), .val (.int (1 : Int32)), .val (.int (0 : Int32)), .val (.int (0 : Int32)), .val (.int (1 : Int32)), .val (.int (1 : Int32))] [(.int ((p0 &&& (2147483647 : Int32)) % (2 : Int32))), (.int ((p1 &&& (2147483647 : Int32)) % (2 : Int32))), (.int (own_b (¬ ((p1 &&& (2147483647 : Int32)) % (2 : Int32)) = ((p0 &&& (2147483647 : Int32)) % (2 : Int32)))))])) _
          exact kq)
        by_cases hc905 : ((p1 &&& (2147483647 : Int32)) % (2 : Int32)) = ((p0 &&& (2147483647 : Int32)) % (2 : Int32))
        · have G906 : Go p e below A0 (T898.setTop (mkF m 262 #[.val (.int p0), .val (.int p1), .val (.int p2), .val (.int p3), .val (.int (1 : Int32)), .val (.int (0 : Int32)), .val (.int (1 : Int32)), .val (.int (0 : Int32)), .val (.int (2 : Int32)), .val (.int (3 : Int32)), .val (.int ((p0 &&& (2147483647 : Int32)) % (2 : Int32))), .val (.int ((p1 &&& (2147483647 : Int32)) % (2 : Int32))), .val (.int ((p2 &&& (2147483647 : Int32)) % (3 : Int32))), .val (.ref b714), .val (.ref b789), .val (.int (1 : Int32)), .val (.int (own_b (¬ ((p1 &&& (2147483647 : Int32)) % (2 : Int32)) = ((p0 &&& (2147483647 : Int32)) % (2 : Int32))))), .val (.int (1 : Int32)), .val (.int (0 : Int32)), .val (.int (0 : Int32)), .val (.int (1 : Int32)), .val (.int (1 : Int32))] [(.int (0 : Int32)), (.int (own_b (¬ ((p1 &&& (2147483647 : Int32)) % (2 : Int32)) = ((p0 &&& (2147483647 : Int32)) % (2 : Int32)))))])) := fun tq kq => G904 tq (by
            refine XS.icmpYes X898.here hx rfl (pc0 := 254) (pc' := 261) rfl (hb hby at_254) rfl (teq hc905).1 (by decide) (by decide) ?_
            show Steps p.tables e below (T898.setTop (mkF m 261 #[.val (.int p0), .val (.int p1), .val (.int p2), .val (.int p3), .val (.int (1 : Int32)), .val (.int (0 : Int32)), .val (.int (1 : Int32)), .val (.int (0 : Int32)), .val (.int (2 : Int32)), .val (.int (3 : Int32)), .val (.int ((p0 &&& (2147483647 : Int32)) % (2 : Int32))), .val (.int ((p1 &&& (2147483647 : Int32)) % (2 : Int32))), .val (.int ((p2 &&& (2147483647 : Int32)) % (3 : Int32))), .val (.ref b714), .val (.ref b789), .val (.int (1 : Int32)), .val (.int (own_b (¬ ((p1 &&& (2147483647 : Int32)) % (2 : Int32)) = ((p0 &&& (2147483647 : Int32)) % (2 : Int32))))), .val (.int (1 : Int32)), .val (.int (0 : Int32)), .val (.int (0 : Int32)), .val (.int (1 : Int32)), .val (.int (1 : Int32))] [(.int (own_b (¬ ((p1 &&& (2147483647 : Int32)) % (2 : Int32)) = ((p0 &&& (2147483647 : Int32)) % (2 : Int32)))))])) _
            refine XS.iconst X898.here hx rfl (hb hby at_261) ?_
            show Steps p.tables e below (T898.setTop (mkF m 262 #[.val (.int p0), .val (.int p1), .val (.int p2), .val (.int p3), .val (.int (1 : Int32)), .val (.int (0 : Int32)), .val (.int (1 : Int32)), .val (.int (0 : Int32)), .val (.int (2 : Int32)), .val (.int (3 : Int32)), .val (.int ((p0 &&& (2147483647 : Int32)) % (2 : Int32))), .val (.int ((p1 &&& (2147483647 : Int32)) % (2 : Int32))), .val (.int ((p2 &&& (2147483647 : Int32)) % (3 : Int32))), .val (.ref b714), .val (.ref b789), .val (.int (1 : Int32)), .val (.int (own_b (¬ ((p1 &&& (2147483647 : Int32)) % (2 : Int32)) = ((p0 &&& (2147483647 : Int32)) % (2 : Int32))))), .val (.int (1 : Int32)), .val (.int (0 : Int32)), .val (.int (0 : Int32)), .val (.int (1 : Int32)), .val (.int (1 : Int32))] [(.int (0 : Int32)), (.int (own_b (¬ ((p1 &&& (2147483647 : Int32)) % (2 : Int32)) = ((p0 &&& (2147483647 : Int32)) % (2 : Int32)))))])) _
            exact kq)
          exact ⟨(0 : Int32), (by simp only [own_b, hc905, not_true_eq_false, not_false_eq_true, if_true, if_false, or_true, true_or, or_false, false_or, and_true, true_and, and_false, false_and, and_self, or_self]), G906⟩
        · have G907 : Go p e below A0 (T898.setTop (mkF m 262 #[.val (.int p0), .val (.int p1), .val (.int p2), .val (.int p3), .val (.int (1 : Int32)), .val (.int (0 : Int32)), .val (.int (1 : Int32)), .val (.int (0 : Int32)), .val (.int (2 : Int32)), .val (.int (3 : Int32)), .val (.int ((p0 &&& (2147483647 : Int32)) % (2 : Int32))), .val (.int ((p1 &&& (2147483647 : Int32)) % (2 : Int32))), .val (.int ((p2 &&& (2147483647 : Int32)) % (3 : Int32))), .val (.ref b714), .val (.ref b789), .val (.int (1 : Int32)), .val (.int (own_b (¬ ((p1 &&& (2147483647 : Int32)) % (2 : Int32)) = ((p0 &&& (2147483647 : Int32)) % (2 : Int32))))), .val (.int (1 : Int32)), .val (.int (0 : Int32)), .val (.int (0 : Int32)), .val (.int (1 : Int32)), .val (.int (1 : Int32))] [(.int (1 : Int32)), (.int (own_b (¬ ((p1 &&& (2147483647 : Int32)) % (2 : Int32)) = ((p0 &&& (2147483647 : Int32)) % (2 : Int32)))))])) := fun tq kq => G904 tq (by
            refine XS.icmpNo X898.here hx rfl (hb hby at_254) rfl (feq hc905).1 ?_
            show Steps p.tables e below (T898.setTop (mkF m 257 #[.val (.int p0), .val (.int p1), .val (.int p2), .val (.int p3), .val (.int (1 : Int32)), .val (.int (0 : Int32)), .val (.int (1 : Int32)), .val (.int (0 : Int32)), .val (.int (2 : Int32)), .val (.int (3 : Int32)), .val (.int ((p0 &&& (2147483647 : Int32)) % (2 : Int32))), .val (.int ((p1 &&& (2147483647 : Int32)) % (2 : Int32))), .val (.int ((p2 &&& (2147483647 : Int32)) % (3 : Int32))), .val (.ref b714), .val (.ref b789), .val (.int (1 : Int32)), .val (.int (own_b (¬ ((p1 &&& (2147483647 : Int32)) % (2 : Int32)) = ((p0 &&& (2147483647 : Int32)) % (2 : Int32))))), .val (.int (1 : Int32)), .val (.int (0 : Int32)), .val (.int (0 : Int32)), .val (.int (1 : Int32)), .val (.int (1 : Int32))] [(.int (own_b (¬ ((p1 &&& (2147483647 : Int32)) % (2 : Int32)) = ((p0 &&& (2147483647 : Int32)) % (2 : Int32)))))])) _
            refine XS.iconst X898.here hx rfl (hb hby at_257) ?_
            show Steps p.tables e below (T898.setTop (mkF m 258 #[.val (.int p0), .val (.int p1), .val (.int p2), .val (.int p3), .val (.int (1 : Int32)), .val (.int (0 : Int32)), .val (.int (1 : Int32)), .val (.int (0 : Int32)), .val (.int (2 : Int32)), .val (.int (3 : Int32)), .val (.int ((p0 &&& (2147483647 : Int32)) % (2 : Int32))), .val (.int ((p1 &&& (2147483647 : Int32)) % (2 : Int32))), .val (.int ((p2 &&& (2147483647 : Int32)) % (3 : Int32))), .val (.ref b714), .val (.ref b789), .val (.int (1 : Int32)), .val (.int (own_b (¬ ((p1 &&& (2147483647 : Int32)) % (2 : Int32)) = ((p0 &&& (2147483647 : Int32)) % (2 : Int32))))), .val (.int (1 : Int32)), .val (.int (0 : Int32)), .val (.int (0 : Int32)), .val (.int (1 : Int32)), .val (.int (1 : Int32))] [(.int (1 : Int32)), (.int (own_b (¬ ((p1 &&& (2147483647 : Int32)) % (2 : Int32)) = ((p0 &&& (2147483647 : Int32)) % (2 : Int32)))))])) _
            refine XS.goto X898.here hx rfl (pc0 := 258) (pc' := 262) rfl (hb hby at_258) (by decide) (by decide) ?_
            show Steps p.tables e below (T898.setTop (mkF m 262 #[.val (.int p0), .val (.int p1), .val (.int p2), .val (.int p3), .val (.int (1 : Int32)), .val (.int (0 : Int32)), .val (.int (1 : Int32)), .val (.int (0 : Int32)), .val (.int (2 : Int32)), .val (.int (3 : Int32)), .val (.int ((p0 &&& (2147483647 : Int32)) % (2 : Int32))), .val (.int ((p1 &&& (2147483647 : Int32)) % (2 : Int32))), .val (.int ((p2 &&& (2147483647 : Int32)) % (3 : Int32))), .val (.ref b714), .val (.ref b789), .val (.int (1 : Int32)), .val (.int (own_b (¬ ((p1 &&& (2147483647 : Int32)) % (2 : Int32)) = ((p0 &&& (2147483647 : Int32)) % (2 : Int32))))), .val (.int (1 : Int32)), .val (.int (0 : Int32)), .val (.int (0 : Int32)), .val (.int (1 : Int32)), .val (.int (1 : Int32))] [(.int (1 : Int32)), (.int (own_b (¬ ((p1 &&& (2147483647 : Int32)) % (2 : Int32)) = ((p0 &&& (2147483647 : Int32)) % (2 : Int32)))))])) _
            exact kq)
          exact ⟨(1 : Int32), (by simp only [own_b, hc905, not_true_eq_false, not_false_eq_true, if_true, if_false, or_true, true_or, or_false, false_or, and_true, true_and, and_false, false_and, and_self, or_self]), G907⟩
      subst hG903
      have G908 : Go p e below A0 (T898.setTop (mkF m 354 #[.val (.int p0), .val (.int p1), .val (.int p2), .val (.int p3), .val (.int (1 : Int32)), .val (.int (0 : Int32)), .val (.int (1 : Int32)), .val (.int (0 : Int32)), .val (.int (2 : Int32)), .val (.int (3 : Int32)), .val (.int ((p0 &&& (2147483647 : Int32)) % (2 : Int32))), .val (.int ((p1 &&& (2147483647 : Int32)) % (2 : Int32))), .val (.int ((p2 &&& (2147483647 : Int32)) % (3 : Int32))), .val (.ref b714), .val (.ref b789), .val (.int (1 : Int32)), .val (.int (own_b (¬ ((p1 &&& (2147483647 : Int32)) % (2 : Int32)) = ((p0 &&& (2147483647 : Int32)) % (2 : Int32))))), .val (.int (1 : Int32)), .val (.int (0 : Int32)), .val (.int (0 : Int32)), .val (.int (1 : Int32)), .val (.int (1 : Int32))] [(.int (1 : Int32))])) := fun tq kq => G903 tq (by
        refine XS.icmpNo X898.here hx rfl (hb hby at_262) rfl (teq (rfl : (own_b (¬ ((p1 &&& (2147483647 : Int32)) % (2 : Int32)) = ((p0 &&& (2147483647 : Int32)) % (2 : Int32)))) = (own_b (¬ ((p1 &&& (2147483647 : Int32)) % (2 : Int32)) = ((p0 &&& (2147483647 : Int32)) % (2 : Int32)))))).2 ?_
        show Steps p.tables e below (T898.setTop (mkF m 265 #[.val (.int p0), .val (.int p1), .val (.int p2), .val (.int p3), .val (.int (1 : Int32)), .val (.int (0 : Int32)), .val (.int (1 : Int32)), .val (.int (0 : Int32)), .val (.int (2 : Int32)), .val (.int (3 : Int32)), .val (.int ((p0 &&& (2147483647 : Int32)) % (2 : Int32))), .val (.int ((p1 &&& (2147483647 : Int32)) % (2 : Int32))), .val (.int ((p2 &&& (2147483647 : Int32)) % (3 : Int32))), .val (.ref b714), .val (.ref b789), .val (.int (1 : Int32)), .val (.int (own_b (¬ ((p1 &&& (2147483647 : Int32)) % (2 : Int32)) = ((p0 &&& (2147483647 : Int32)) % (2 : Int32))))), .val (.int (1 : Int32)), .val (.int (0 : Int32)), .val (.int (0 : Int32)), .val (.int (1 : Int32)), .val (.int (1 : Int32))] [])) _
        refine XS.iconst X898.here hx rfl (hb hby at_265) ?_
        show Steps p.tables e below (T898.setTop (mkF m 266 #[.val (.int p0), .val (.int p1), .val (.int p2), .val (.int p3), .val (.int (1 : Int32)), .val (.int (0 : Int32)), .val (.int (1 : Int32)), .val (.int (0 : Int32)), .val (.int (2 : Int32)), .val (.int (3 : Int32)), .val (.int ((p0 &&& (2147483647 : Int32)) % (2 : Int32))), .val (.int ((p1 &&& (2147483647 : Int32)) % (2 : Int32))), .val (.int ((p2 &&& (2147483647 : Int32)) % (3 : Int32))), .val (.ref b714), .val (.ref b789), .val (.int (1 : Int32)), .val (.int (own_b (¬ ((p1 &&& (2147483647 : Int32)) % (2 : Int32)) = ((p0 &&& (2147483647 : Int32)) % (2 : Int32))))), .val (.int (1 : Int32)), .val (.int (0 : Int32)), .val (.int (0 : Int32)), .val (.int (1 : Int32)), .val (.int (1 : Int32))] [(.int (1 : Int32))])) _
        refine XS.goto X898.here hx rfl (pc0 := 266) (pc' := 270) rfl (hb hby at_266) (by decide) (by decide) ?_
        show Steps p.tables e below (T898.setTop (mkF m 270 #[.val (.int p0), .val (.int p1), .val (.int p2), .val (.int p3), .val (.int (1 : Int32)), .val (.int (0 : Int32)), .val (.int (1 : Int32)), .val (.int (0 : Int32)), .val (.int (2 : Int32)), .val (.int (3 : Int32)), .val (.int ((p0 &&& (2147483647 : Int32)) % (2 : Int32))), .val (.int ((p1 &&& (2147483647 : Int32)) % (2 : Int32))), .val (.int ((p2 &&& (2147483647 : Int32)) % (3 : Int32))), .val (.ref b714), .val (.ref b789), .val (.int (1 : Int32)), .val (.int (own_b (¬ ((p1 &&& (2147483647 : Int32)) % (2 : Int32)) = ((p0 &&& (2147483647 : Int32)) % (2 : Int32))))), .val (.int (1 : Int32)), .val (.int (0 : Int32)), .val (.int (0 : Int32)), .val (.int (1 : Int32)), .val (.int (1 : Int32))] [(.int (1 : Int32))])) _
        refine XS.istore X898.here hx rfl (hb hby at_270) rfl (l' := #[.val (.int p0), .val (.int p1), .val (.int p2), .val (.int p3), .val (.int (1 : Int32)), .val (.int (0 : Int32)), .val (.int (1 : Int32)), .val (.int (0 : Int32)), .val (.int (2 : Int32)), .val (.int (3 : Int32)), .val (.int ((p0 &&& (2147483647 : Int32)) % (2 : Int32))), .val (.int ((p1 &&& (2147483647 : Int32)) % (2 : Int32))), .val (.int ((p2 &&& (2147483647 : Int32)) % (3 : Int32))), .val (.ref b714), .val (.ref b789), .val (.int (1 : Int32)), .val (.int (own_b (¬ ((p1 &&& (2147483647 : Int32)) % (2 : Int32)) = ((p0 &&& (2147483647 : Int32)) % (2 : Int32))))), .val (.int (1 : Int32)), .val (.int (0 : Int32)), .val (.int (0 : Int32)), .val (.int (1 : Int32)), .val (.int (1 : Int32))]) rfl ?_
        show Steps p.tables e below (T898.setTop (mkF m 272 #[.val (.int p0), .val (.int p1), .val (.int p2), .val (.int p3), .val (.int (1 : Int32)), .val (.int (0 : Int32)), .val (.int (1 : Int32)), .val (.int (0 : Int32)), .val (.int (2 : Int32)), .val (.int (3 : Int32)), .val (.int ((p0 &&& (2147483647 : Int32)) % (2 : Int32))), .val (.int ((p1 &&& (2147483647 : Int32)) % (2 : Int32))), .val (.int ((p2 &&& (2147483647 : Int32)) % (3 : Int32))), .val (.ref b714), .val (.ref b789), .val (.int (1 : Int32)), .val (.int (own_b (¬ ((p1 &&& (2147483647 : Int32)) % (2 : Int32)) = ((p0 &&& (2147483647 : Int32)) % (2 : Int32))))), .val (.int (1 : Int32)), .val (.int (0 : Int32)), .val (.int (0 : Int32)), .val (.int (1 : Int32)), .val (.int (1 : Int32))] [])) _
        refine XS.iload X898.here hx rfl (hb hby at_272) rfl ?_
        show Steps p.tables e below (T898.setTop (mkF m 274 #[.val (.int p0), .val (.int p1), .val (.int p2), .val (.int p3), .val (.int (1 : Int32)), .val (.int (0 : Int32)), .val (.int (1 : Int32)), .val (.int (0 : Int32)), .val (.int (2 : Int32)), .val (.int (3 : Int32)), .val (.int ((p0 &&& (2147483647 : Int32)) % (2 : Int32))), .val (.int ((p1 &&& (2147483647 : Int32)) % (2 : Int32))), .val (.int ((p2 &&& (2147483647 : Int32)) % (3 : Int32))), .val (.ref b714), .val (.ref b789), .val (.int (1 : Int32)), .val (.int (own_b (¬ ((p1 &&& (2147483647 : Int32)) % (2 : Int32)) = ((p0 &&& (2147483647 : Int32)) % (2 : Int32))))), .val (.int (1 : Int32)), .val (.int (0 : Int32)), .val (.int (0 : Int32)), .val (.int (1 : Int32)), .val (.int (1 : Int32))] [(.int (1 : Int32))])) _
        refine XS.ifNo X898.here hx rfl (hb hby at_274) rfl (by decide) ?_
        show Steps p.tables e below (T898.setTop (mkF m 277 #[.val (.int p0), .val (.int p1), .val (.int p2), .val (.int p3), .val (.int (1 : Int32)), .val (.int (0 : Int32)), .val (.int (1 : Int32)), .val (.int (0 : Int32)), .val (.int (2 : Int32)), .val (.int (3 : Int32)), .val (.int ((p0 &&& (2147483647 : Int32)) % (2 : Int32))), .val (.int ((p1 &&& (2147483647 : Int32)) % (2 : Int32))), .val (.int ((p2 &&& (2147483647 : Int32)) % (3 : Int32))), .val (.ref b714), .val (.ref b789), .val (.int (1 : Int32)), .val (.int (own_b (¬ ((p1 &&& (2147483647 : Int32)) % (2 : Int32)) = ((p0 &&& (2147483647 : Int32)) % (2 : Int32))))), .val (.int (1 : Int32)), .val (.int (0 : Int32)), .val (.int (0 : Int32)), .val (.int (1 : Int32)), .val (.int (1 : Int32))] [])) _
        refine XS.iload X898.here hx rfl (hb hby at_277) rfl ?_
        show Steps p.tables e below (T898.setTop (mkF m 279 #[.val (.int p0), .val (.int p1), .val (.int p2), .val (.int p3), .val (.int (1 : Int32)), .val (.int (0 : Int32)), .val (.int (1 : Int32)), .val (.int (0 : Int32)), .val (.int (2 : Int32)), .val (.int (3 : Int32)), .val (.int ((p0 &&& (2147483647 : Int32)) % (2 : Int32))), .val (.int ((p1 &&& (2147483647 : Int32)) % (2 : Int32))), .val (.int ((p2 &&& (2147483647 : Int32)) % (3 : Int32))), .val (.ref b714), .val (.ref b789), .val (.int (1 : Int32)), .val (.int (own_b (¬ ((p1 &&& (2147483647 : Int32)) % (2 : Int32)) = ((p0 &&& (2147483647 : Int32)) % (2 : Int32))))), .val (.int (1 : Int32)), .val (.int (0 : Int32)), .val (.int (0 : Int32)), .val (.int (1 : Int32)), .val (.int (1 : Int32))] [(.int (1 : Int32))])) _
        refine XS.ifNo X898.here hx rfl (hb hby at_279) rfl (by decide) ?_
        show Steps p.tables e below (T898.setTop (mkF m 282 #[.val (.int p0), .val (.int p1), .val (.int p2), .val (.int p3), .val (.int (1 : Int32)), .val (.int (0 : Int32)), .val (.int (1 : Int32)), .val (.int (0 : Int32)), .val (.int (2 : Int32)), .val (.int (3 : Int32)), .val (.int ((p0 &&& (2147483647 : Int32)) % (2 : Int32))), .val (.int ((p1 &&& (2147483647 : Int32)) % (2 : Int32))), .val (.int ((p2 &&& (2147483647 : Int32)) % (3 : Int32))), .val (.ref b714), .val (.ref b789), .val (.int (1 : Int32)), .val (.int (own_b (¬ ((p1 &&& (2147483647 : Int32)) % (2 : Int32)) = ((p0 &&& (2147483647 : Int32)) % (2 : Int32))))), .val (.int (1 : Int32)), .val (.int (0 : Int32)), .val (.int (0 : Int32)), .val (.int (1 : Int32)), .val (.int (1 : Int32))] [])) _
        refine XS.iconst X898.here hx rfl (hb hby at_282) ?_
        show Steps p.tables e below (T898.setTop (mkF m 283 #[.val (.int p0), .val (.int p1), .val (.int p2), .val (.int p3), .val (.int (1 : Int32)), .val (.int (0 : Int32)), .val (.int (1 : Int32)), .val (.int (0 : Int32)), .val (.int (2 : Int32)), .val (.int (3 : Int32)), .val (.int ((p0 &&& (2147483647 : Int32)) % (2 : Int32))), .val (.int ((p1 &&& (2147483647 : Int32)) % (2 : Int32))), .val (.int ((p2 &&& (2147483647 : Int32)) % (3 : Int32))), .val (.ref b714), .val (.ref b789), .val (.int (1 : Int32)), .val (.int (own_b (¬ ((p1 &&& (2147483647 : Int32)) % (2 : Int32)) = ((p0 &&& (2147483647 : Int32)) % (2 : Int32))))), .val (.int (1 : Int32)), .val (.int (0 : Int32)), .val (.int (0 : Int32)), .val (.int (1 : Int32)), .val (.int (1 : Int32))] [(.int (1 : Int32))])) _
        refine XS.goto X898.here hx rfl (pc0 := 283) (pc' := 287) rfl (hb hby at_283) (by decide) (by decide) ?_
        show Steps p.tables e below (T898.setTop (mkF m 287 #[.val (.int p0), .val (.int p1), .val (.int p2), .val (.int p3), .val (.int (1 : Int32)), .val (.int (0 : Int32)), .val (.int (1 : Int32)), .val (.int (0 : Int32)), .val (.int (2 : Int32)), .val (.int (3 : Int32)), .val (.int ((p0 &&& (2147483647 : Int32)) % (2 : Int32))), .val (.int ((p1 &&& (2147483647 : Int32)) % (2 : Int32))), .val (.int ((p2 &&& (2147483647 : Int32)) % (3 : Int32))), .val (.ref b714), .val (.ref b789), .val (.int (1 : Int32)), .val (.int (own_b (¬ ((p1 &&& (2147483647 : Int32)) % (2 : Int32)) = ((p0 &&& (2147483647 : Int32)) % (2 : Int32))))), .val (.int (1 : Int32)), .val (.int (0 : Int32)), .val (.int (0 : Int32)), .val (.int (1 : Int32)), .val (.int (1 : Int32))] [(.int (1 : Int32))])) _
        refine XS.istore X898.here hx rfl (hb hby at_287) rfl (l' := #[.val (.int p0), .val (.int p1), .val (.int p2), .val (.int p3), .val (.int (1 : Int32)), .val (.int (0 : Int32)), .val (.int (1 : Int32)), .val (.int (0 : Int32)), .val (.int (2 : Int32)), .val (.int (3 : Int32)), .val (.int ((p0 &&& (2147483647 : Int32)) % (2 : Int32))), .val (.int ((p1 &&& (2147483647 : Int32)) % (2 : Int32))), .val (.int ((p2 &&& (2147483647 : Int32)) % (3 : Int32))), .val (.ref b714), .val (.ref b789), .val (.int (1 : Int32)), .val (.int (own_b (¬ ((p1 &&& (2147483647 : Int32)) % (2 : Int32)) = ((p0 &&& (2147483647 : Int32)) % (2 : Int32))))), .val (.int (1 : Int32)), .val (.int (0 : Int32)), .val (.int (0 : Int32)), .val (.int (1 : Int32)), .val (.int (1 : Int32))]) rfl ?_
        show Steps p.tables e below (T898.setTop (mkF m 289 #[.val (.int p0), .val (.int p1), .val (.int p2), .val (.int p3), .val (.int (1 : Int32)), .val (.int (0 : Int32)), .val (.int (1 : Int32)), .val (.int (0 : Int32)), .val (.int (2 : Int32)), .val (.int (3 : Int32)), .val (.int ((p0 &&& (2147483647 : Int32)) % (2 : Int32))), .val (.int ((p1 &&& (2147483647 : Int32)) % (2 : Int32))), .val (.int ((p2 &&& (2147483647 : Int32)) % (3 : Int32))), .val (.ref b714), .val (.ref b789), .val (.int (1 : Int32)), .val (.int (own_b (¬ ((p1 &&& (2147483647 : Int32)) % (2 : Int32)) = ((p0 &&& (2147483647 : Int32)) % (2 : Int32))))), .val (.int (1 : Int32)), .val (.int (0 : Int32)), .val (.int (0 : Int32)), .val (.int (1 : Int32)), .val (.int (1 : Int32))] [])) _
        refine XS.iload X898.here hx rfl (hb hby at_289) rfl ?_
        show Steps p.tables e below (T898.setTop (mkF m 291 #[.val (.int p0), .val (.int p1), .val (.int p2), .val (.int p3), .val (.int (1 : Int32)), .val (.int (0 : Int32)), .val (.int (1 : Int32)), .val (.int (0 : Int32)), .val (.int (2 : Int32)), .val (.int (3 : Int32)), .val (.int ((p0 &&& (2147483647 : Int32)) % (2 : Int32))), .val (.int ((p1 &&& (2147483647 : Int32)) % (2 : Int32))), .val (.int ((p2 &&& (2147483647 : Int32)) % (3 : Int32))), .val (.ref b714), .val (.ref b789), .val (.int (1 : Int32)), .val (.int (own_b (¬ ((p1 &&& (2147483647 : Int32)) % (2 : Int32)) = ((p0 &&& (2147483647 : Int32)) % (2 : Int32))))), .val (.int (1 : Int32)), .val (.int (0 : Int32)), .val (.int (0 : Int32)), .val (.int (1 : Int32)), .val (.int (1 : Int32))] [(.int (1 : Int32))])) _
        refine XS.ifNo X898.here hx rfl (hb hby at_291) rfl (by decide) ?_
        show Steps p.tables e below (T898.setTop (mkF m 294 #[.val (.int p0), .val (.int p1), .val (.int p2), .val (.int p3), .val (.int (1 : Int32)), .val (.int (0 : Int32)), .val (.int (1 : Int32)), .val (.int (0 : Int32)), .val (.int (2 : Int32)), .val (.int (3 : Int32)), .val (.int ((p0 &&& (2147483647 : Int32)) % (2 : Int32))), .val (.int ((p1 &&& (2147483647 : Int32)) % (2 : Int32))), .val (.int ((p2 &&& (2147483647 : Int32)) % (3 : Int32))), .val (.ref b714), .val (.ref b789), .val (.int (1 : Int32)), .val (.int (own_b (¬ ((p1 &&& (2147483647 : Int32)) % (2 : Int32)) = ((p0 &&& (2147483647 : Int32)) % (2 : Int32))))), .val (.int (1 : Int32)), .val (.int (0 : Int32)), .val (.int (0 : Int32)), .val (.int (1 : Int32)), .val (.int (1 : Int32))] [])) _
        refine XS.iload X898.here hx rfl (hb hby at_294) rfl ?_
        show Steps p.tables e below (T898.setTop (mkF m 296 #[.val (.int p0), .val (.int p1), .val (.int p2), .val (.int p3), .val (.int (1 : Int32)), .val (.int (0 : Int32)), .val (.int (1 : Int32)), .val (.int (0 : Int32)), .val (.int (2 : Int32)), .val (.int (3 : Int32)), .val (.int ((p0 &&& (2147483647 : Int32)) % (2 : Int32))), .val (.int ((p1 &&& (2147483647 : Int32)) % (2 : Int32))), .val (.int ((p2 &&& (2147483647 : Int32)) % (3 : Int32))), .val (.ref b714), .val (.ref b789), .val (.int (1 : Int32)), .val (.int (own_b (¬ ((p1 &&& (2147483647 : Int32)) % (2 : Int32)) = ((p0 &&& (2147483647 : Int32)) % (2 : Int32))))), .val (.int (1 : Int32)), .val (.int (0 : Int32)), .val (.int (0 : Int32)), .val (.int (1 : Int32)), .val (.int (1 : Int32))] [(.int (0 : Int32))])) _
        refine XS.ifNo X898.here hx rfl (hb hby at_296) rfl (by decide) ?_
        show Steps p.tables e below (T898.setTop (mkF m 299 #[.val (.int p0), .val (.int p1), .val (.int p2), .val (.int p3), .val (.int (1 : Int32)), .val (.int (0 : Int32)), .val (.int (1 : Int32)), .val (.int (0 : Int32)), .val (.int (2 : Int32)), .val (.int (3 : Int32)), .val (.int ((p0 &&& (2147483647 : Int32)) % (2 : Int32))), .val (.int ((p1 &&& (2147483647 : Int32)) % (2 : Int32))), .val (.int ((p2 &&& (2147483647 : Int32)) % (3 : Int32))), .val (.ref b714), .val (.ref b789), .val (.int (1 : Int32)), .val (.int (own_b (¬ ((p1 &&& (2147483647 : Int32)) % (2 : Int32)) = ((p0 &&& (2147483647 : Int32)) % (2 : Int32))))), .val (.int (1 : Int32)), .val (.int (0 : Int32)), .val (.int (0 : Int32)), .val (.int (1 : Int32)), .val (.int (1 : Int32))] [])) _
        refine XS.iconst X898.here hx rfl (hb hby at_299) ?_
        show Steps p.tables e below (T898.setTop (mkF m 300 #[.val (.int p0), .val (.int p1), .val (.int p2), .val (.int p3), .val (.int (1 : Int32)), .val (.int (0 : Int32)), .val (.int (1 : Int32)), .val (.int (0 : Int32)), .val (.int (2 : Int32)), .val (.int (3 : Int32)), .val (.int ((p0 &&& (2147483647 : Int32)) % (2 : Int32))), .val (.int ((p1 &&& (2147483647 : Int32)) % (2 : Int32))), .val (.int ((p2 &&& (2147483647 : Int32)) % (3 : Int32))), .val (.ref b714), .val (.ref b789), .val (.int (1 : Int32)), .val (.int (own_b (¬ ((p1 &&& (2147483647 : Int32)) % (2 : Int32)) = ((p0 &&& (2147483647 : Int32)) % (2 : Int32))))), .val (.int (1 : Int32)), .val (.int (0 : Int32)), .val (.int (0 : Int32)), .val (.int (1 : Int32)), .val (.int (1 : Int32))] [(.int (1 : Int32))])) _
        refine XS.goto X898.here hx rfl (pc0 := 300) (pc' := 304) rfl (hb hby at_300) (by decide) (by decide) ?_
        show Steps p.tables e below (T898.setTop (mkF m 304 #[.val (.int p0), .val (.int p1), .val (.int p2), .val (.int p3), .val (.int (1 : Int32)), .val (.int (0 : Int32)), .val (.int (1 : Int32)), .val (.int (0 : Int32)), .val (.int (2 : Int32)), .val (.int (3 : Int32)), .val (.int ((p0 &&& (2147483647 : Int32)) % (2 : Int32))), .val (.int ((p1 &&& (2147483647 : Int32)) % (2 : Int32))), .val (.int ((p2 &&& (2147483647 : Int32)) % (3 : Int32))), .val (.ref b714), .val (.ref b789), .val (.int (1 : Int32)), .val (.int (own_b (¬ ((p1 &&& (2147483647 : Int32)) % (2 : Int32)) = ((p0 &&& (2147483647 : Int32)) % (2 : Int32))))), .val (.int (1 : Int32)), .val (.int (0 : Int32)), .val (.int (0 : Int32)), .val (.int (1 : Int32)), .val (.int (1 : Int32))] [(.int (1 : Int32))])) _
        refine XS.istore X898.here hx rfl (hb hby at_304) rfl (l' := #[.val (.int p0), .val (.int p1), .val (.int p2), .val (.int p3), .val (.int (1 : Int32)), .val (.int (0 : Int32)), .val (.int (1 : Int32)), .val (.int (0 : Int32)), .val (.int (2 : Int32)), .val (.int (3 : Int32)), .val (.int ((p0 &&& (2147483647 : Int32)) % (2 : Int32))), .val (.int ((p1 &&& (2147483647 : Int32)) % (2 : Int32))), .val (.int ((p2 &&& (2147483647 : Int32)) % (3 : Int32))), .val (.ref b714), .val (.ref b789), .val (.int (1 : Int32)), .val (.int (own_b (¬ ((p1 &&& (2147483647 : Int32)) % (2 : Int32)) = ((p0 &&& (2147483647 : Int32)) % (2 : Int32))))), .val (.int (1 : Int32)), .val (.int (0 : Int32)), .val (.int (0 : Int32)), .val (.int (1 : Int32)), .val (.int (1 : Int32))]) rfl ?_
        show Steps p.tables e below (T898.setTop (mkF m 306 #[.val (.int p0), .val (.int p1), .val (.int p2), .val (.int p3), .val (.int (1 : Int32)), .val (.int (0 : Int32)), .val (.int (1 : Int32)), .val (.int (0 : Int32)), .val (.int (2 : Int32)), .val (.int (3 : Int32)), .val (.int ((p0 &&& (2147483647 : Int32)) % (2 : Int32))), .val (.int ((p1 &&& (2147483647 : Int32)) % (2 : Int32))), .val (.int ((p2 &&& (2147483647 : Int32)) % (3 : Int32))), .val (.ref b714), .val (.ref b789), .val (.int (1 : Int32)), .val (.int (own_b (¬ ((p1 &&& (2147483647 : Int32)) % (2 : Int32)) = ((p0 &&& (2147483647 : Int32)) % (2 : Int32))))), .val (.int (1 : Int32)), .val (.int (0 : Int32)), .val (.int (0 : Int32)), .val (.int (1 : Int32)), .val (.int (1 : Int32))] [])) _
        refine XS.iload X898.here hx rfl (hb hby at_306) rfl ?_
        show Steps p.tables e below (T898.setTop (mkF m 308 #[.val (.int p0), .val (.int p1), .val (.int p2), .val (.int p3), .val (.int (1 : Int32)), .val (.int (0 : Int32)), .val (.int (1 : Int32)), .val (.int (0 : Int32)), .val (.int (2 : Int32)), .val (.int (3 : Int32)), .val (.int ((p0 &&& (2147483647 : Int32)) % (2 : Int32))), .val (.int ((p1 &&& (2147483647 : Int32)) % (2 : Int32))), .val (.int ((p2 &&& (2147483647 : Int32)) % (3 : Int32))), .val (.ref b714), .val (.ref b789), .val (.int (1 : Int32)), .val (.int (own_b (¬ ((p1 &&& (2147483647 : Int32)) % (2 : Int32)) = ((p0 &&& (2147483647 : Int32)) % (2 : Int32))))), .val (.int (1 : Int32)), .val (.int (0 : Int32)), .val (.int (0 : Int32)), .val (.int (1 : Int32)), .val (.int (1 : Int32))] [(.int (1 : Int32))])) _
        refine XS.ifNo X898.here hx rfl (hb hby at_308) rfl (by decide) ?_
        show Steps p.tables e below (T898.setTop (mkF m 311 #[.val (.int p0), .val (.int p1), .val (.int p2), .val (.int p3), .val (.int (1 : Int32)), .val (.int (0 : Int32)), .val (.int (1 : Int32)), .val (.int (0 : Int32)), .val (.int (2 : Int32)), .val (.int (3 : Int32)), .val (.int ((p0 &&& (2147483647 : Int32)) % (2 : Int32))), .val (.int ((p1 &&& (2147483647 : Int32)) % (2 : Int32))), .val (.int ((p2 &&& (2147483647 : Int32)) % (3 : Int32))), .val (.ref b714), .val (.ref b789), .val (.int (1 : Int32)), .val (.int (own_b (¬ ((p1 &&& (2147483647 : Int32)) % (2 : Int32)) = ((p0 &&& (2147483647 : Int32)) % (2 : Int32))))), .val (.int (1 : Int32)), .val (.int (0 : Int32)), .val (.int (0 : Int32)), .val (.int (1 : Int32)), .val (.int (1 : Int32))] [])) _
        refine XS.iload X898.here hx rfl (hb hby at_311) rfl ?_
        show Steps p.tables e below (T898.setTop (mkF m 313 #[.val (.int p0), .val (.int p1), .val (.int p2), .val (.int p3), .val (.int (1 : Int32)), .val (.int (0 : Int32)), .val (.int (1 : Int32)), .val (.int (0 : Int32)), .val (.int (2 : Int32)), .val (.int (3 : Int32)), .val (.int ((p0 &&& (2147483647 : Int32)) % (2 : Int32))), .val (.int ((p1 &&& (2147483647 : Int32)) % (2 : Int32))), .val (.int ((p2 &&& (2147483647 : Int32)) % (3 : Int32))), .val (.ref b714), .val (.ref b789), .val (.int (1 : Int32)), .val (.int (own_b (¬ ((p1 &&& (2147483647 : Int32)) % (2 : Int32)) = ((p0 &&& (2147483647 : Int32)) % (2 : Int32))))), .val (.int (1 : Int32)), .val (.int (0 : Int32)), .val (.int (0 : Int32)), .val (.int (1 : Int32)), .val (.int (1 : Int32))] [(.int (0 : Int32))])) _
        refine XS.iload X898.here hx rfl (hb hby at_313) rfl ?_
        show Steps p.tables e below (T898.setTop (mkF m 315 #[.val (.int p0), .val (.int p1), .val (.int p2), .val (.int p3), .val (.int (1 : Int32)), .val (.int (0 : Int32)), .val (.int (1 : Int32)), .val (.int (0 : Int32)), .val (.int (2 : Int32)), .val (.int (3 : Int32)), .val (.int ((p0 &&& (2147483647 : Int32)) % (2 : Int32))), .val (.int ((p1 &&& (2147483647 : Int32)) % (2 : Int32))), .val (.int ((p2 &&& (2147483647 : Int32)) % (3 : Int32))), .val (.ref b714), .val (.ref b789), .val (.int (1 : Int32)), .val (.int (own_b (¬ ((p1 &&& (2147483647 : Int32)) % (2 : Int32)) = ((p0 &&& (2147483647 : Int32)) % (2 : Int32))))), .val (.int (1 : Int32)), .val (.int (0 : Int32)), .val (.int (0 : Int32)), .val (.int (1 : Int32)), .val (.int (1 : Int32))] [(.int (0 : Int32)), (.int (0 : Int32))])) _
        refine XS.icmpNo X898.here hx rfl (hb hby at_315) rfl (by decide) ?_
        show Steps p.tables e below (T898.setTop (mkF m 318 #[.val (.int p0), .val (.int p1), .val (.int p2), .val (.int p3), .val (.int (1 : Int32)), .val (.int (0 : Int32)), .val (.int (1 : Int32)), .val (.int (0 : Int32)), .val (.int (2 : Int32)), .val (.int (3 : Int32)), .val (.int ((p0 &&& (2147483647 : Int32)) % (2 : Int32))), .val (.int ((p1 &&& (2147483647 : Int32)) % (2 : Int32))), .val (.int ((p2 &&& (2147483647 : Int32)) % (3 : Int32))), .val (.ref b714), .val (.ref b789), .val (.int (1 : Int32)), .val (.int (own_b (¬ ((p1 &&& (2147483647 : Int32)) % (2 : Int32)) = ((p0 &&& (2147483647 : Int32)) % (2 : Int32))))), .val (.int (1 : Int32)), .val (.int (0 : Int32)), .val (.int (0 : Int32)), .val (.int (1 : Int32)), .val (.int (1 : Int32))] [])) _
        refine XS.iconst X898.here hx rfl (hb hby at_318) ?_
        show Steps p.tables e below (T898.setTop (mkF m 319 #[.val (.int p0), .val (.int p1), .val (.int p2), .val (.int p3), .val (.int (1 : Int32)), .val (.int (0 : Int32)), .val (.int (1 : Int32)), .val (.int (0 : Int32)), .val (.int (2 : Int32)), .val (.int (3 : Int32)), .val (.int ((p0 &&& (2147483647 : Int32)) % (2 : Int32))), .val (.int ((p1 &&& (2147483647 : Int32)) % (2 : Int32))), .val (.int ((p2 &&& (2147483647 : Int32)) % (3 : Int32))), .val (.ref b714), .val (.ref b789), .val (.int (1 : Int32)), .val (.int (own_b (¬ ((p1 &&& (2147483647 : Int32)) % (2 : Int32)) = ((p0 &&& (2147483647 : Int32)) % (2 : Int32))))), .val (.int (1 : Int32)), .val (.int (0 : Int32)), .val (.int (0 : Int32)), .val (.int (1 : Int32)), .val (.int (1 : Int32))] [(.int (1 : Int32))])) _
        refine XS.goto X898.here hx rfl (pc0 := 319) (pc' := 323) rfl (hb hby at_319) (by decide) (by decide) ?_
        show Steps p.tables e below (T898.setTop (mkF m 323 #[.val (.int p0), .val (.int p1), .val (.int p2), .val (.int p3), .val (.int (1 : Int32)), .val (.int (0 : Int32)), .val (.int (1 : Int32)), .val (.int (0 : Int32)), .val (.int (2 : Int32)), .val (.int (3 : Int32)), .val (.int ((p0 &&& (2147483647 : Int32)) % (2 : Int32))), .val (.int ((p1 &&& (2147483647 : Int32)) % (2 : Int32))), .val (.int ((p2 &&& (2147483647 : Int32)) % (3 : Int32))), .val (.ref b714), .val (.ref b789), .val (.int (1 : Int32)), .val (.int (own_b (¬ ((p1 &&& (2147483647 : Int32)) % (2 : Int32)) = ((p0 &&& (2147483647 : Int32)) % (2 : Int32))))), .val (.int (1 : Int32)), .val (.int (0 : Int32)), .val (.int (0 : Int32)), .val (.int (1 : Int32)), .val (.int (1 : Int32))] [(.int (1 : Int32))])) _
        refine XS.istore X898.here hx rfl (hb hby at_323) rfl (l' := #[.val (.int p0), .val (.int p1), .val (.int p2), .val (.int p3), .val (.int (1 : Int32)), .val (.int (0 : Int32)), .val (.int (1 : Int32)), .val (.int (0 : Int32)), .val (.int (2 : Int32)), .val (.int (3 : Int32)), .val (.int ((p0 &&& (2147483647 : Int32)) % (2 : Int32))), .val (.int ((p1 &&& (2147483647 : Int32)) % (2 : Int32))), .val (.int ((p2 &&& (2147483647 : Int32)) % (3 : Int32))), .val (.ref b714), .val (.ref b789), .val (.int (1 : Int32)), .val (.int (own_b (¬ ((p1 &&& (2147483647 : Int32)) % (2 : Int32)) = ((p0 &&& (2147483647 : Int32)) % (2 : Int32))))), .val (.int (1 : Int32)), .val (.int (0 : Int32)), .val (.int (0 : Int32)), .val (.int (1 : Int32)), .val (.int (1 : Int32))]) rfl ?_
        show Steps p.tables e below (T898.setTop (mkF m 325 #[.val (.int p0), .val (.int p1), .val (.int p2), .val (.int p3), .val (.int (1 : Int32)), .val (.int (0 : Int32)), .val (.int (1 : Int32)), .val (.int (0 : Int32)), .val (.int (2 : Int32)), .val (.int (3 : Int32)), .val (.int ((p0 &&& (2147483647 : Int32)) % (2 : Int32))), .val (.int ((p1 &&& (2147483647 : Int32)) % (2 : Int32))), .val (.int ((p2 &&& (2147483647 : Int32)) % (3 : Int32))), .val (.ref b714), .val (.ref b789), .val (.int (1 : Int32)), .val (.int (own_b (¬ ((p1 &&& (2147483647 : Int32)) % (2 : Int32)) = ((p0 &&& (2147483647 : Int32)) % (2 : Int32))))), .val (.int (1 : Int32)), .val (.int (0 : Int32)), .val (.int (0 : Int32)), .val (.int (1 : Int32)), .val (.int (1 : Int32))] [])) _
        refine XS.iload X898.here hx rfl (hb hby at_325) rfl ?_
        show Steps p.tables e below (T898.setTop (mkF m 327 #[.val (.int p0), .val (.int p1), .val (.int p2), .val (.int p3), .val (.int (1 : Int32)), .val (.int (0 : Int32)), .val (.int (1 : Int32)), .val (.int (0 : Int32)), .val (.int (2 : Int32)), .val (.int (3 : Int32)), .val (.int ((p0 &&& (2147483647 : Int32)) % (2 : Int32))), .val (.int ((p1 &&& (2147483647 : Int32)) % (2 : Int32))), .val (.int ((p2 &&& (2147483647 : Int32)) % (3 : Int32))), .val (.ref b714), .val (.ref b789), .val (.int (1 : Int32)), .val (.int (own_b (¬ ((p1 &&& (2147483647 : Int32)) % (2 : Int32)) = ((p0 &&& (2147483647 : Int32)) % (2 : Int32))))), .val (.int (1 : Int32)), .val (.int (0 : Int32)), .val (.int (0 : Int32)), .val (.int (1 : Int32)), .val (.int (1 : Int32))] [(.int (1 : Int32))])) _
        refine XS.ifNo X898.here hx rfl (hb hby at_327) rfl (by decide) ?_
        show Steps p.tables e below (T898.setTop (mkF m 330 #[.val (.int p0), .val (.int p1), .val (.int p2), .val (.int p3), .val (.int (1 : Int32)), .val (.int (0 : Int32)), .val (.int (1 : Int32)), .val (.int (0 : Int32)), .val (.int (2 : Int32)), .val (.int (3 : Int32)), .val (.int ((p0 &&& (2147483647 : Int32)) % (2 : Int32))), .val (.int ((p1 &&& (2147483647 : Int32)) % (2 : Int32))), .val (.int ((p2 &&& (2147483647 : Int32)) % (3 : Int32))), .val (.ref b714), .val (.ref b789), .val (.int (1 : Int32)), .val (.int (own_b (¬ ((p1 &&& (2147483647 : Int32)) % (2 : Int32)) = ((p0 &&& (2147483647 : Int32)) % (2 : Int32))))), .val (.int (1 : Int32)), .val (.int (0 : Int32)), .val (.int (0 : Int32)), .val (.int (1 : Int32)), .val (.int (1 : Int32))] [])) _
        refine XS.iload X898.here hx rfl (hb hby at_330) rfl ?_
        show Steps p.tables e below (T898.setTop (mkF m 332 #[.val (.int p0), .val (.int p1), .val (.int p2), .val (.int p3), .val (.int (1 : Int32)), .val (.int (0 : Int32)), .val (.int (1 : Int32)), .val (.int (0 : Int32)), .val (.int (2 : Int32)), .val (.int (3 : Int32)), .val (.int ((p0 &&& (2147483647 : Int32)) % (2 : Int32))), .val (.int ((p1 &&& (2147483647 : Int32)) % (2 : Int32))), .val (.int ((p2 &&& (2147483647 : Int32)) % (3 : Int32))), .val (.ref b714), .val (.ref b789), .val (.int (1 : Int32)), .val (.int (own_b (¬ ((p1 &&& (2147483647 : Int32)) % (2 : Int32)) = ((p0 &&& (2147483647 : Int32)) % (2 : Int32))))), .val (.int (1 : Int32)), .val (.int (0 : Int32)), .val (.int (0 : Int32)), .val (.int (1 : Int32)), .val (.int (1 : Int32))] [(.int (1 : Int32))])) _
        refine XS.iload X898.here hx rfl (hb hby at_332) rfl ?_
        show Steps p.tables e below (T898.setTop (mkF m 334 #[.val (.int p0), .val (.int p1), .val (.int p2), .val (.int p3), .val (.int (1 : Int32)), .val (.int (0 : Int32)), .val (.int (1 : Int32)), .val (.int (0 : Int32)), .val (.int (2 : Int32)), .val (.int (3 : Int32)), .val (.int ((p0 &&& (2147483647 : Int32)) % (2 : Int32))), .val (.int ((p1 &&& (2147483647 : Int32)) % (2 : Int32))), .val (.int ((p2 &&& (2147483647 : Int32)) % (3 : Int32))), .val (.ref b714), .val (.ref b789), .val (.int (1 : Int32)), .val (.int (own_b (¬ ((p1 &&& (2147483647 : Int32)) % (2 : Int32)) = ((p0 &&& (2147483647 : Int32)) % (2 : Int32))))), .val (.int (1 : Int32)), .val (.int (0 : Int32)), .val (.int (0 : Int32)), .val (.int (1 : Int32)), .val (.int (1 : Int32))] [(.int (0 : Int32)), (.int (1 : Int32))])) _
        refine XS.ifNo X898.here hx rfl (hb hby at_334) rfl (by decide) ?_
        show Steps p.tables e below (T898.setTop (mkF m 337 #[.val (.int p0), .val (.int p1), .val (.int p2), .val (.int p3), .val (.int (1 : Int32)), .val (.int (0 : Int32)), .val (.int (1 : Int32)), .val (.int (0 : Int32)), .val (.int (2 : Int32)), .val (.int (3 : Int32)), .val (.int ((p0 &&& (2147483647 : Int32)) % (2 : Int32))), .val (.int ((p1 &&& (2147483647 : Int32)) % (2 : Int32))), .val (.int ((p2 &&& (2147483647 : Int32)) % (3 : Int32))), .val (.ref b714), .val (.ref b789), .val (.int (1 : Int32)), .val (.int (own_b (¬ ((p1 &&& (2147483647 : Int32)) % (2 : Int32)) = ((p0 &&& (2147483647 : Int32)) % (2 : Int32))))), .val (.int (1 : Int32)), .val (.int (0 : Int32)), .val (.int (0 : Int32)), .val (.int (1 : Int32)), .val (.int (1 : Int32))] [(.int (1 : Int32))])) _
        refine XS.iconst X898.here hx rfl (hb hby at_337) ?_
        show Steps p.tables e below (T898.setTop (mkF m 338 #[.val (.int p0), .val (.int p1), .val (.int p2), .val (.int p3), .val (.int (1 : Int32)), .val (.int (0 : Int32)), .val (.int (1 : Int32)), .val (.int (0 : Int32)), .val (.int (2 : Int32)), .val (.int (3 : Int32)), .val (.int ((p0 &&& (2147483647 : Int32)) % (2 : Int32))), .val (.int ((p1 &&& (2147483647 : Int32)) % (2 : Int32))), .val (.int ((p2 &&& (2147483647 : Int32)) % (3 : Int32))), .val (.ref b714), .val (.ref b789), .val (.int (1 : Int32)), .val (.int (own_b (¬ ((p1 &&& (2147483647 : Int32)) % (2 : Int32)) = ((p0 &&& (2147483647 : Int32)) % (2 : Int32))))), .val (.int (1 : Int32)), .val (.int (0 : Int32)), .val (.int (0 : Int32)), .val (.int (1 : Int32)), .val (.int (1 : Int32))] [(.int (1 : Int32)), (.int (1 : Int32))])) _
        refine XS.goto X898.here hx rfl (pc0 := 338) (pc' := 342) rfl (hb hby at_338) (by decide) (by decide) ?_
        show Steps p.tables e below (T898.setTop (mkF m 342 #[.val (.int p0), .val (.int p1), .val (.int p2), .val (.int p3), .val (.int (1 : Int32)), .val (.int (0 : Int32)), .val (.int (1 : Int32)), .val (.int (0 : Int32)), .val (.int (2 : Int32)), .val (.int (3 : Int32)), .val (.int ((p0 &&& (2147483647 : Int32)) % (2 : Int32))), .val (.int ((p1 &&& (2147483647 : Int32)) % (2 : Int32))), .val (.int ((p2 &&& (2147483647 : Int32)) % (3 : Int32))), .val (.ref b714), .val (.ref b789), .val (.int (1 : Int32)), .val (.int (own_b (¬ ((p1 &&& (2147483647 : Int32)) % (2 : Int32)) = ((p0 &&& (2147483647 : Int32)) % (2 : Int32))))), .val (.int (1 : Int32)), .val (.int (0 : Int32)), .val (.int (0 : Int32)), .val (.int (1 : Int32)), .val (.int (1 : Int32))] [(.int (1 : Int32)), (.int (1 : Int32))])) _
        refine XS.icmpNo X898.here hx rfl (hb hby at_342) rfl (by decide) ?_
        show Steps p.tables e below (T898.setTop (mkF m 345 #[.val (.int p0), .val (.int p1), .val (.int p2), .val (.int p3), .val (.int (1 : Int32)), .val (.int (0 : Int32)), .val (.int (1 : Int32)), .val (.int (0 : Int32)), .val (.int (2 : Int32)), .val (.int (3 : Int32)), .val (.int ((p0 &&& (2147483647 : Int32)) % (2 : Int32))), .val (.int ((p1 &&& (2147483647 : Int32)) % (2 : Int32))), .val (.int ((p2 &&& (2147483647 : Int32)) % (3 : Int32))), .val (.ref b714), .val (.ref b789), .val (.int (1 : Int32)), .val (.int (own_b (¬ ((p1 &&& (2147483647 : Int32)) % (2 : Int32)) = ((p0 &&& (2147483647 : Int32)) % (2 : Int32))))), .val (.int (1 : Int32)), .val (.int (0 : Int32)), .val (.int (0 : Int32)), .val (.int (1 : Int32)), .val (.int (1 : Int32))] [])) _
        refine XS.iconst X898.here hx rfl (hb hby at_345) ?_
        show Steps p.tables e below (T898.setTop (mkF m 346 #[.val (.int p0), .val (.int p1), .val (.int p2), .val (.int p3), .val (.int (1 : Int32)), .val (.int (0 : Int32)), .val (.int (1 : Int32)), .val (.int (0 : Int32)), .val (.int (2 : Int32)), .val (.int (3 : Int32)), .val (.int ((p0 &&& (2147483647 : Int32)) % (2 : Int32))), .val (.int ((p1 &&& (2147483647 : Int32)) % (2 : Int32))), .val (.int ((p2 &&& (2147483647 : Int32)) % (3 : Int32))), .val (.ref b714), .val (.ref b789), .val (.int (1 : Int32)), .val (.int (own_b (¬ ((p1 &&& (2147483647 : Int32)) % (2 : Int32)) = ((p0 &&& (2147483647 : Int32)) % (2 : Int32))))), .val (.int (1 : Int32)), .val (.int (0 : Int32)), .val (.int (0 : Int32)), .val (.int (1 : Int32)), .val (.int (1 : Int32))] [(.int (1 : Int32))])) _
        refine XS.goto X898.here hx rfl (pc0 := 346) (pc' := 350) rfl (hb hby at_346) (by decide) (by decide) ?_
        show Steps p.tables e below (T898.setTop (mkF m 350 #[.val (.int p0), .val (.int p1), .val (.int p2), .val (.int p3), .val (.int (1 : Int32)), .val (.int (0 : Int32)), .val (.int (1 : Int32)), .val (.int (0 : Int32)), .val (.int (2 : Int32)), .val (.int (3 : Int32)), .val (.int ((p0 &&& (2147483647 : Int32)) % (2 : Int32))), .val (.int ((p1 &&& (2147483647 : Int32)) % (2 : Int32))), .val (.int ((p2 &&& (2147483647 : Int32)) % (3 : Int32))), .val (.ref b714), .val (.ref b789), .val (.int (1 : Int32)), .val (.int (own_b (¬ ((p1 &&& (2147483647 : Int32)) % (2 : Int32)) = ((p0 &&& (2147483647 : Int32)) % (2 : Int32))))), .val (.int (1 : Int32)), .val (.int (0 : Int32)), .val (.int (0 : Int32)), .val (.int (1 : Int32)), .val (.int (1 : Int32))] [(.int (1 : Int32))])) _
        refine XS.istore X898.here hx rfl (hb hby at_350) rfl (l' := #[.val (.int p0), .val (.int p1), .val (.int p2), .val (.int p3), .val (.int (1 : Int32)), .val (.int (0 : Int32)), .val (.int (1 : Int32)), .val (.int (0 : Int32)), .val (.int (2 : Int32)), .val (.int (3 : Int32)), .val (.int ((p0 &&& (2147483647 : Int32)) % (2 : Int32))), .val (.int ((p1 &&& (2147483647 : Int32)) % (2 : Int32))), .val (.int ((p2 &&& (2147483647 : Int32)) % (3 : Int32))), .val (.ref b714), .val (.ref b789), .val (.int (1 : Int32)), .val (.int (own_b (¬ ((p1 &&& (2147483647 : Int32)) % (2 : Int32)) = ((p0 &&& (2147483647 : Int32)) % (2 : Int32))))), .val (.int (1 : Int32)), .val (.int (0 : Int32)), .val (.int (0 : Int32)), .val (.int (1 : Int32)), .val (.int (1 : Int32))]) rfl ?_
        show Steps p.tables e below (T898.setTop (mkF m 352 #[.val (.int p0), .val (.int p1), .val (.int p2), .val (.int p3), .val (.int (1 : Int32)), .val (.int (0 : Int32)), .val (.int (1 : Int32)), .val (.int (0 : Int32)), .val (.int (2 : Int32)), .val (.int (3 : Int32)), .val (.int ((p0 &&& (2147483647 : Int32)) % (2 : Int32))), .val (.int ((p1 &&& (2147483647 : Int32)) % (2 : Int32))), .val (.int ((p2 &&& (2147483647 : Int32)) % (3 : Int32))), .val (.ref b714), .val (.ref b789), .val (.int (1 : Int32)), .val (.int (own_b (¬ ((p1 &&& (2147483647 : Int32)) % (2 : Int32)) = ((p0 &&& (2147483647 : Int32)) % (2 : Int32))))), .val (.int (1 : Int32)), .val (.int (0 : Int32)), .val (.int (0 : Int32)), .val (.int (1 : Int32)), .val (.int (1 : Int32))] [])) _
        refine XS.iload X898.here hx rfl (hb hby at_352) rfl ?_
        show Steps p.tables e below (T898.setTop (mkF m 354 #[.val (.int p0), .val (.int p1), .val (.int p2), .val (.int p3), .val (.int (1 : Int32)), .val (.int (0 : Int32)), .val (.int (1 : Int32)), .val (.int (0 : Int32)), .val (.int (2 : Int32)), .val (.int (3 : Int32)), .val (.int ((p0 &&& (2147483647 : Int32)) % (2 : Int32))), .val (.int ((p1 &&& (2147483647 : Int32)) % (2 : Int32))), .val (.int ((p2 &&& (2147483647 : Int32)) % (3 : Int32))), .val (.ref b714), .val (.ref b789), .val (.int (1 : Int32)), .val (.int (own_b (¬ ((p1 &&& (2147483647 : Int32)) % (2 : Int32)) = ((p0 &&& (2147483647 : Int32)) % (2 : Int32))))), .val (.int (1 : Int32)), .val (.int (0 : Int32)), .val (.int (0 : Int32)), .val (.int (1 : Int32)), .val (.int (1 : Int32))] [(.int (1 : Int32))])) _
        exact kq)
      have f909 := (Nat.le_trans (Nat.le_trans (Nat.le_trans (Nat.le_trans (Nat.le_trans (Nat.le_trans (Nat.le_trans (Nat.le_trans (Nat.le_trans (Nat.le_trans hk761 E765.1) K770.1) K779.1) E789.1) K794.1) K872.1) K877.1) K882.1) K887.1) K893.1)
      obtain ⟨fs, hr, hrun, hended, hRW⟩ := X898.leaveW (s := s) (vm₁ := T761.vm) hS (by rw [e898]; exact f909) (v := some (.int (nar .boolean (1 : Int32)))) (fun h => by rw [Bd.returns] at h; cases h)
      refine ⟨_, _, (by rw [← hA0]; exact G908 _ (retN X898 hx (t := .boolean) Bd.returns (by simp) (hb hby at_354) hr)), hrun, hended, _, _, rfl, ?_, hRW.1, hRW.2.1, hRW.2.2.1, hRW.2.2.2.mono (by decide) (by decide)⟩
      exact ⟨rfl, N898⟩
    · skip
      have G910 : Go p e below A0 (T887.setTop (mkF m 214 #[.val (.int p0), .val (.int p1), .val (.int p2), .val (.int p3), .val (.int (1 : Int32)), .val (.int (1 : Int32)), .val (.int (1 : Int32)), .val (.int (0 : Int32)), .val (.int (2 : Int32)), .val (.int (3 : Int32)), .val (.int ((p0 &&& (2147483647 : Int32)) % (2 : Int32))), .val (.int ((p1 &&& (2147483647 : Int32)) % (2 : Int32))), .val (.int ((p2 &&& (2147483647 : Int32)) % (3 : Int32))), .val (.ref b714), .val (.ref b789), .val (.int (1 : Int32)), .val (.int (own_b (¬ ((p1 &&& (2147483647 : Int32)) % (2 : Int32)) = ((p0 &&& (2147483647 : Int32)) % (2 : Int32))))), .val (.int (1 : Int32)), .val (.int (0 : Int32)), .unset, .unset, .unset] [(.ref b789)])) := fun tq kq => G891 tq (by
        refine XS.iload X887.here hx rfl (hb hby at_207) rfl ?_
        show Steps p.tables e below (T887.setTop (mkF m 209 #[.val (.int p0), .val (.int p1), .val (.int p2), .val (.int p3), .val (.int (1 : Int32)), .val (.int (1 : Int32)), .val (.int (1 : Int32)), .val (.int (0 : Int32)), .val (.int (2 : Int32)), .val (.int (3 : Int32)), .val (.int ((p0 &&& (2147483647 : Int32)) % (2 : Int32))), .val (.int ((p1 &&& (2147483647 : Int32)) % (2 : Int32))), .val (.int ((p2 &&& (2147483647 : Int32)) % (3 : Int32))), .val (.ref b714), .val (.ref b789), .val (.int (1 : Int32)), .val (.int (own_b (¬ ((p1 &&& (2147483647 : Int32)) % (2 : Int32)) = ((p0 &&& (2147483647 : Int32)) % (2 : Int32))))), .val (.int (1 : Int32)), .val (.int (0 : Int32)), .unset, .unset, .unset] [(.int (1 : Int32))])) _
        refine XS.ifNo X887.here hx rfl (hb hby at_209) rfl (by decide) ?_
        show Steps p.tables e below (T887.setTop (mkF m 212 #[.val (.int p0), .val (.int p1), .val (.int p2), .val (.int p3), .val (.int (1 : Int32)), .val (.int (1 : Int32)), .val (.int (1 : Int32)), .val (.int (0 : Int32)), .val (.int (2 : Int32)), .val (.int (3 : Int32)), .val (.int ((p0 &&& (2147483647 : Int32)) % (2 : Int32))), .val (.int ((p1 &&& (2147483647 : Int32)) % (2 : Int32))), .val (.int ((p2 &&& (2147483647 : Int32)) % (3 : Int32))), .val (.ref b714), .val (.ref b789), .val (.int (1 : Int32)), .val (.int (own_b (¬ ((p1 &&& (2147483647 : Int32)) % (2 : Int32)) = ((p0 &&& (2147483647 : Int32)) % (2 : Int32))))), .val (.int (1 : Int32)), .val (.int (0 : Int32)), .unset, .unset, .unset] [])) _
        refine XS.aload X887.here hx rfl (hb hby at_212) rfl rfl ?_
        show Steps p.tables e below (T887.setTop (mkF m 214 #[.val (.int p0), .val (.int p1), .val (.int p2), .val (.int p3), .val (.int (1 : Int32)), .val (.int (1 : Int32)), .val (.int (1 : Int32)), .val (.int (0 : Int32)), .val (.int (2 : Int32)), .val (.int (3 : Int32)), .val (.int ((p0 &&& (2147483647 : Int32)) % (2 : Int32))), .val (.int ((p1 &&& (2147483647 : Int32)) % (2 : Int32))), .val (.int ((p2 &&& (2147483647 : Int32)) % (3 : Int32))), .val (.ref b714), .val (.ref b789), .val (.int (1 : Int32)), .val (.int (own_b (¬ ((p1 &&& (2147483647 : Int32)) % (2 : Int32)) = ((p0 &&& (2147483647 : Int32)) % (2 : Int32))))), .val (.int (1 : Int32)), .val (.int (0 : Int32)), .unset, .unset, .unset] [(.ref b789)])) _
        exact kq)
      have f912 := (Nat.le_trans f888 K887.1)
      have f913 := (f889.keep K887)
      obtain ⟨cq911, kq911, q911a, q911b, q911c⟩ := isOf hZ rfl f913
      obtain ⟨_, _, ⟨T911, L911, k911, n911⟩, -, X911, ⟨Lc911, hQ911, l911, y911, z911⟩, st911⟩ := X887.virtualBack hx (y := (⟨"com/example/ludarc/ludarc/engine/Domains", "clearMarks", "()V"⟩ : MethodName)) (z := (⟨"com/example/ludarc/ludarc/engine/Domains", "clearMarks", "()V"⟩ : MethodName)) hown (mvT hZ (hw _ (List.mem_of_getElem? (i := 152) rfl))) (mvT hZ (hw _ (List.mem_of_getElem? (i := 153) rfl))) (notFace_of_selects (args := #[]) (mvT hZ (hw _ (List.mem_of_getElem? (i := 155) rfl)))) (mvT hZ (hw _ (List.mem_of_getElem? (i := 155) rfl))) (mvT hZ (hw _ (List.mem_of_getElem? (i := 154) rfl))) (by decide) (backOf (W := 0) (rm20 l Z a0 hw [] b789 mem_ pos_ siz_ mrk_ m0_ p0_ k0_ m1_ p1_ k1_ (own_sz) (own_id) (own_id) (own_up (own_zero) (((p2 &&& (2147483647 : Int32)) % (3 : Int32))).toNatClampNeg (1 : Int32)) (own_id) (own_id) (own_up (own_up (own_up (own_zero) (((p0 &&& (2147483647 : Int32)) % (2 : Int32))).toNatClampNeg (1 : Int32)) (((p1 &&& (2147483647 : Int32)) % (2 : Int32))).toNatClampNeg (1 : Int32)) (((p0 &&& (2147483647 : Int32)) % (2 : Int32))).toNatClampNeg (1 : Int32)) T887.heap n0 f912 ord794 dom887) hZ (hw _ (List.mem_of_getElem? (i := 156) rfl)) (hw _ (List.mem_of_getElem? (i := 87) rfl)) (by decide) (by decide)) q911a q911c (g := (mkF m 214 #[.val (.int p0), .val (.int p1), .val (.int p2), .val (.int p3), .val (.int (1 : Int32)), .val (.int (1 : Int32)), .val (.int (1 : Int32)), .val (.int (0 : Int32)), .val (.int (2 : Int32)), .val (.int (3 : Int32)), .val (.int ((p0 &&& (2147483647 : Int32)) % (2 : Int32))), .val (.int ((p1 &&& (2147483647 : Int32)) % (2 : Int32))), .val (.int ((p2 &&& (2147483647 : Int32)) % (3 : Int32))), .val (.ref b714), .val (.ref b789), .val (.int (1 : Int32)), .val (.int (own_b (¬ ((p1 &&& (2147483647 : Int32)) % (2 : Int32)) = ((p0 &&& (2147483647 : Int32)) % (2 : Int32))))), .val (.int (1 : Int32)), .val (.int (0 : Int32)), .unset, .unset, .unset] [(.ref b789)])) rfl (by rw [hml]; rfl) (Steps.refl _) (argsL := []) (rest := []) (lenOf pd_0 rfl) rfl (by show 2 * 0 + _ ≤ _; exact Nat.le_of_eq rfl) (hb hby at_214) (fun _ _ => ⟨rfl, rfl, (by decide : 21 + 0 ≤ _), (by decide : 72 + 0 ≤ _)⟩)
      dsimp only [Pt.U, Pt.locs, Pt.cells, Pt.slots] at X911 l911 y911 z911 st911 hQ911
      obtain rfl : k911 = 21 := y911
      obtain rfl : n911 = 72 := z911
      obtain ⟨rfl, N911q, K911, dom911⟩ := hQ911
      have N911 : Fr n0 L911 := by rw [l911]; exact Fr.app N887 N911q
      have G914 : Go p e below A0 (T911.setTop (mkF m 217 #[.val (.int p0), .val (.int p1), .val (.int p2), .val (.int p3), .val (.int (1 : Int32)), .val (.int (1 : Int32)), .val (.int (1 : Int32)), .val (.int (0 : Int32)), .val (.int (2 : Int32)), .val (.int (3 : Int32)), .val (.int ((p0 &&& (2147483647 : Int32)) % (2 : Int32))), .val (.int ((p1 &&& (2147483647 : Int32)) % (2 : Int32))), .val (.int ((p2 &&& (2147483647 : Int32)) % (3 : Int32))), .val (.ref b714), .val (.ref b789), .val (.int (1 : Int32)), .val (.int (own_b (¬ ((p1 &&& (2147483647 : Int32)) % (2 : Int32)) = ((p0 &&& (2147483647 : Int32)) % (2 : Int32))))), .val (.int (1 : Int32)), .val (.int (0 : Int32)), .unset, .unset, .unset] [])) := fun tq kq => G910 tq (st911.trans kq)
      have G915 : Go p e below A0 (T911.setTop (mkF m 223 #[.val (.int p0), .val (.int p1), .val (.int p2), .val (.int p3), .val (.int (1 : Int32)), .val (.int (1 : Int32)), .val (.int (1 : Int32)), .val (.int (0 : Int32)), .val (.int (2 : Int32)), .val (.int (3 : Int32)), .val (.int ((p0 &&& (2147483647 : Int32)) % (2 : Int32))), .val (.int ((p1 &&& (2147483647 : Int32)) % (2 : Int32))), .val (.int ((p2 &&& (2147483647 : Int32)) % (3 : Int32))), .val (.ref b714), .val (.ref b789), .val (.int (1 : Int32)), .val (.int (own_b (¬ ((p1 &&& (2147483647 : Int32)) % (2 : Int32)) = ((p0 &&& (2147483647 : Int32)) % (2 : Int32))))), .val (.int (1 : Int32)), .val (.int (0 : Int32)), .unset, .unset, .unset] [(.int ((p1 &&& (2147483647 : Int32)) % (2 : Int32))), (.int (1 : Int32)), (.ref b789)])) := fun tq kq => G914 tq (by
        refine XS.aload X911.here hx rfl (hb hby at_217) rfl rfl ?_
        show Steps p.tables e below (T911.setTop (mkF m 219 #[.val (.int p0), .val (.int p1), .val (.int p2), .val (.int p3), .val (.int (1 : Int32)), .val (.int (1 : Int32)), .val (.int (1 : Int32)), .val (.int (0 : Int32)), .val (.int (2 : Int32)), .val (.int (3 : Int32)), .val (.int ((p0 &&& (2147483647 : Int32)) % (2 : Int32))), .val (.int ((p1 &&& (2147483647 : Int32)) % (2 : Int32))), .val (.int ((p2 &&& (2147483647 : Int32)) % (3 : Int32))), .val (.ref b714), .val (.ref b789), .val (.int (1 : Int32)), .val (.int (own_b (¬ ((p1 &&& (2147483647 : Int32)) % (2 : Int32)) = ((p0 &&& (2147483647 : Int32)) % (2 : Int32))))), .val (.int (1 : Int32)), .val (.int (0 : Int32)), .unset, .unset, .unset] [(.ref b789)])) _
        refine XS.iload X911.here hx rfl (hb hby at_219) rfl ?_
        show Steps p.tables e below (T911.setTop (mkF m 221 #[.val (.int p0), .val (.int p1), .val (.int p2), .val (.int p3), .val (.int (1 : Int32)), .val (.int (1 : Int32)), .val (.int (1 : Int32)), .val (.int (0 : Int32)), .val (.int (2 : Int32)), .val (.int (3 : Int32)), .val (.int ((p0 &&& (2147483647 : Int32)) % (2 : Int32))), .val (.int ((p1 &&& (2147483647 : Int32)) % (2 : Int32))), .val (.int ((p2 &&& (2147483647 : Int32)) % (3 : Int32))), .val (.ref b714), .val (.ref b789), .val (.int (1 : Int32)), .val (.int (own_b (¬ ((p1 &&& (2147483647 : Int32)) % (2 : Int32)) = ((p0 &&& (2147483647 : Int32)) % (2 : Int32))))), .val (.int (1 : Int32)), .val (.int (0 : Int32)), .unset, .unset, .unset] [(.int (1 : Int32)), (.ref b789)])) _
        refine XS.iload X911.here hx rfl (hb hby at_221) rfl ?_
        show Steps p.tables e below (T911.setTop (mkF m 223 #[.val (.int p0), .val (.int p1), .val (.int p2), .val (.int p3), .val (.int (1 : Int32)), .val (.int (1 : Int32)), .val (.int (1 : Int32)), .val (.int (0 : Int32)), .val (.int (2 : Int32)), .val (.int (3 : Int32)), .val (.int ((p0 &&& (2147483647 : Int32)) % (2 : Int32))), .val (.int ((p1 &&& (2147483647 : Int32)) % (2 : Int32))), .val (.int ((p2 &&& (2147483647 : Int32)) % (3 : Int32))), .val (.ref b714), .val (.ref b789), .val (.int (1 : Int32)), .val (.int (own_b (¬ ((p1 &&& (2147483647 : Int32)) % (2 : Int32)) = ((p0 &&& (2147483647 : Int32)) % (2 : Int32))))), .val (.int (1 : Int32)), .val (.int (0 : Int32)), .unset, .unset, .unset] [(.int ((p1 &&& (2147483647 : Int32)) % (2 : Int32))), (.int (1 : Int32)), (.ref b789)])) _
        exact kq)
      have f917 := (Nat.le_trans f912 K911.1)
      have f918 := (f913.keep K911)
      obtain ⟨cq916, kq916, q916a, q916b, q916c⟩ := isOf hZ rfl f918
      obtain ⟨_, _, ⟨T916, L916, k916, n916⟩, -, X916, ⟨Lc916, hQ916, l916, y916, z916⟩, st916⟩ := X911.virtualBack hx (y := (⟨"com/example/ludarc/ludarc/engine/Domains", "mark", "(II)Z"⟩ : MethodName)) (z := (⟨"com/example/ludarc/ludarc/engine/Domains", "mark", "(II)Z"⟩ : MethodName)) hown (mvT hZ (hw _ (List.mem_of_getElem? (i := 142) rfl))) (mvT hZ (hw _ (List.mem_of_getElem? (i := 143) rfl))) (notFace_of_selects (args := #[]) (mvT hZ (hw _ (List.mem_of_getElem? (i := 145) rfl)))) (mvT hZ (hw _ (List.mem_of_getElem? (i := 145) rfl))) (mvT hZ (hw _ (List.mem_of_getElem? (i := 144) rfl))) (by decide) (backOf (W := 0) (rmM1 l Z a0 hw [] b789 mem_ pos_ siz_ mrk_ m0_ p0_ k0_ m1_ p1_ k1_ (2 : Int32) (own_sz) (own_id) (own_id) (own_up (own_zero) (((p2 &&& (2147483647 : Int32)) % (3 : Int32))).toNatClampNeg (1 : Int32)) (own_id) (own_id) (own_up (own_up (own_up (own_zero) (((p0 &&& (2147483647 : Int32)) % (2 : Int32))).toNatClampNeg (1 : Int32)) (((p1 &&& (2147483647 : Int32)) % (2 : Int32))).toNatClampNeg (1 : Int32)) (((p0 &&& (2147483647 : Int32)) % (2 : Int32))).toNatClampNeg (1 : Int32)) (1 : Int32) ((p1 &&& (2147483647 : Int32)) % (2 : Int32)) T911.heap n0 f917 ord794 dom911 hb_ (own_bt (by simp [own_up]))) hZ (hw _ (List.mem_of_getElem? (i := 146) rfl)) (hw _ (List.mem_of_getElem? (i := 87) rfl)) (by decide) (by decide)) q916a q916c (g := (mkF m 223 #[.val (.int p0), .val (.int p1), .val (.int p2), .val (.int p3), .val (.int (1 : Int32)), .val (.int (1 : Int32)), .val (.int (1 : Int32)), .val (.int (0 : Int32)), .val (.int (2 : Int32)), .val (.int (3 : Int32)), .val (.int ((p0 &&& (2147483647 : Int32)) % (2 : Int32))), .val (.int ((p1 &&& (2147483647 : Int32)) % (2 : Int32))), .val (.int ((p2 &&& (2147483647 : Int32)) % (3 : Int32))), .val (.ref b714), .val (.ref b789), .val (.int (1 : Int32)), .val (.int (own_b (¬ ((p1 &&& (2147483647 : Int32)) % (2 : Int32)) = ((p0 &&& (2147483647 : Int32)) % (2 : Int32))))), .val (.int (1 : Int32)), .val (.int (0 : Int32)), .unset, .unset, .unset] [(.int ((p1 &&& (2147483647 : Int32)) % (2 : Int32))), (.int (1 : Int32)), (.ref b789)])) rfl (by rw [hml]; rfl) (Steps.refl _) (argsL := [(.int (1 : Int32)), (.int ((p1 &&& (2147483647 : Int32)) % (2 : Int32)))]) (rest := []) (lenOf pd_11 rfl) rfl (by show 2 * 0 + _ ≤ _; exact Nat.le_of_eq rfl) (hb hby at_223) (fun _ _ => ⟨rfl, rfl, (by decide : 21 + 0 ≤ _), (by decide : 72 + 0 ≤ _)⟩)
      dsimp only [Pt.U, Pt.locs, Pt.cells, Pt.slots] at X916 l916 y916 z916 st916 hQ916
      obtain rfl : k916 = 21 := y916
      obtain rfl : n916 = 72 := z916
      obtain ⟨rfl, N916q, K916, dom916⟩ := hQ916
      have N916 : Fr n0 L916 := by rw [l916]; exact Fr.app N911 N916q
      have G919 : Go p e below A0 (T916.setTop (mkF m 226 #[.val (.int p0), .val (.int p1), .val (.int p2), .val (.int p3), .val (.int (1 : Int32)), .val (.int (1 : Int32)), .val (.int (1 : Int32)), .val (.int (0 : Int32)), .val (.int (2 : Int32)), .val (.int (3 : Int32)), .val (.int ((p0 &&& (2147483647 : Int32)) % (2 : Int32))), .val (.int ((p1 &&& (2147483647 : Int32)) % (2 : Int32))), .val (.int ((p2 &&& (2147483647 : Int32)) % (3 : Int32))), .val (.ref b714), .val (.ref b789), .val (.int (1 : Int32)), .val (.int (own_b (¬ ((p1 &&& (2147483647 : Int32)) % (2 : Int32)) = ((p0 &&& (2147483647 : Int32)) % (2 : Int32))))), .val (.int (1 : Int32)), .val (.int (0 : Int32)), .unset, .unset, .unset] [(.int (1 : Int32))])) := fun tq kq => G915 tq (st916.trans kq)
      have G920 : Go p e below A0 (T916.setTop (mkF m 234 #[.val (.int p0), .val (.int p1), .val (.int p2), .val (.int p3), .val (.int (1 : Int32)), .val (.int (1 : Int32)), .val (.int (1 : Int32)), .val (.int (0 : Int32)), .val (.int (2 : Int32)), .val (.int (3 : Int32)), .val (.int ((p0 &&& (2147483647 : Int32)) % (2 : Int32))), .val (.int ((p1 &&& (2147483647 : Int32)) % (2 : Int32))), .val (.int ((p2 &&& (2147483647 : Int32)) % (3 : Int32))), .val (.ref b714), .val (.ref b789), .val (.int (1 : Int32)), .val (.int (own_b (¬ ((p1 &&& (2147483647 : Int32)) % (2 : Int32)) = ((p0 &&& (2147483647 : Int32)) % (2 : Int32))))), .val (.int (1 : Int32)), .val (.int (0 : Int32)), .val (.int (1 : Int32)), .unset, .unset] [(.int ((p2 &&& (2147483647 : Int32)) % (3 : Int32))), (.int (0 : Int32)), (.ref b789)])) := fun tq kq => G919 tq (by
        refine XS.istore X916.here hx rfl (hb hby at_226) rfl (l' := #[.val (.int p0), .val (.int p1), .val (.int p2), .val (.int p3), .val (.int (1 : Int32)), .val (.int (1 : Int32)), .val (.int (1 : Int32)), .val (.int (0 : Int32)), .val (.int (2 : Int32)), .val (.int (3 : Int32)), .val (.int ((p0 &&& (2147483647 : Int32)) % (2 : Int32))), .val (.int ((p1 &&& (2147483647 : Int32)) % (2 : Int32))), .val (.int ((p2 &&& (2147483647 : Int32)) % (3 : Int32))), .val (.ref b714), .val (.ref b789), .val (.int (1 : Int32)), .val (.int (own_b (¬ ((p1 &&& (2147483647 : Int32)) % (2 : Int32)) = ((p0 &&& (2147483647 : Int32)) % (2 : Int32))))), .val (.int (1 : Int32)), .val (.int (0 : Int32)), .val (.int (1 : Int32)), .unset, .unset]) rfl ?_
        show Steps p.tables e below (T916.setTop (mkF m 228 #[.val (.int p0), .val (.int p1), .val (.int p2), .val (.int p3), .val (.int (1 : Int32)), .val (.int (1 : Int32)), .val (.int (1 : Int32)), .val (.int (0 : Int32)), .val (.int (2 : Int32)), .val (.int (3 : Int32)), .val (.int ((p0 &&& (2147483647 : Int32)) % (2 : Int32))), .val (.int ((p1 &&& (2147483647 : Int32)) % (2 : Int32))), .val (.int ((p2 &&& (2147483647 : Int32)) % (3 : Int32))), .val (.ref b714), .val (.ref b789), .val (.int (1 : Int32)), .val (.int (own_b (¬ ((p1 &&& (2147483647 : Int32)) % (2 : Int32)) = ((p0 &&& (2147483647 : Int32)) % (2 : Int32))))), .val (.int (1 : Int32)), .val (.int (0 : Int32)), .val (.int (1 : Int32)), .unset, .unset] [])) _
        refine XS.aload X916.here hx rfl (hb hby at_228) rfl rfl ?_
        show Steps p.tables e below (T916.setTop (mkF m 230 #[.val (.int p0), .val (.int p1), .val (.int p2), .val (.int p3), .val (.int (1 : Int32)), .val (.int (1 : Int32)), .val (.int (1 : Int32)), .val (.int (0 : Int32)), .val (.int (2 : Int32)), .val (.int (3 : Int32)), .val (.int ((p0 &&& (2147483647 : Int32)) % (2 : Int32))), .val (.int ((p1 &&& (2147483647 : Int32)) % (2 : Int32))), .val (.int ((p2 &&& (2147483647 : Int32)) % (3 : Int32))), .val (.ref b714), .val (.ref b789), .val (.int (1 : Int32)), .val (.int (own_b (¬ ((p1 &&& (2147483647 : Int32)) % (2 : Int32)) = ((p0 &&& (2147483647 : Int32)) % (2 : Int32))))), .val (.int (1 : Int32)), .val (.int (0 : Int32)), .val (.int (1 : Int32)), .unset, .unset] [(.ref b789)])) _
        refine XS.iload X916.here hx rfl (hb hby at_230) rfl ?_
        show Steps p.tables e below (T916.setTop (mkF m 232 #[.val (.int p0), .val (.int p1), .val (.int p2), .val (.int p3), .val (.int (1 : Int32)), .val (.int (1 : Int32)), .val (.int (1 : Int32)), .val (.int (0 : Int32)), .val (.int (2 : Int32)), .val (.int (3 : Int32)), .val (.int ((p0 &&& (2147483647 : Int32)) % (2 : Int32))), .val (.int ((p1 &&& (2147483647 : Int32)) % (2 : Int32))), .val (.int ((p2 &&& (2147483647 : Int32)) % (3 : Int32))), .val (.ref b714), .val (.ref b789), .val (.int (1 : Int32)), .val (.int (own_b (¬ ((p1 &&& (2147483647 : Int32)) % (2 : Int32)) = ((p0 &&& (2147483647 : Int32)) % (2 : Int32))))), .val (.int (1 : Int32)), .val (.int (0 : Int32)), .val (.int (1 : Int32)), .unset, .unset] [(.int (0 : Int32)), (.ref b789)])) _
        refine XS.iload X916.here hx rfl (hb hby at_232) rfl ?_
        show Steps p.tables e below (T916.setTop (mkF m 234 #[.val (.int p0), .val (.int p1), .val (.int p2), .val (.int p3), .val (.int (1 : Int32)), .val (.int (1 : Int32)), .val (.int (1 : Int32)), .val (.int (0 : Int32)), .val (.int (2 : Int32)), .val (.int (3 : Int32)), .val (.int ((p0 &&& (2147483647 : Int32)) % (2 : Int32))), .val (.int ((p1 &&& (2147483647 : Int32)) % (2 : Int32))), .val (.int ((p2 &&& (2147483647 : Int32)) % (3 : Int32))), .val (.ref b714), .val (.ref b789), .val (.int (1 : Int32)), .val (.int (own_b (¬ ((p1 &&& (2147483647 : Int32)) % (2 : Int32)) = ((p0 &&& (2147483647 : Int32)) % (2 : Int32))))), .val (.int (1 : Int32)), .val (.int (0 : Int32)), .val (.int (1 : Int32)), .unset, .unset] [(.int ((p2 &&& (2147483647 : Int32)) % (3 : Int32))), (.int (0 : Int32)), (.ref b789)])) _
        exact kq)
      have f922 := (Nat.le_trans f917 K916.1)
      have f923 := (f918.keep K916)
      obtain ⟨cq921, kq921, q921a, q921b, q921c⟩ := isOf hZ rfl f923
      obtain ⟨_, _, ⟨T921, L921, k921, n921⟩, -, X921, ⟨Lc921, hQ921, l921, y921, z921⟩, st921⟩ := X916.virtualBack hx (y := (⟨"com/example/ludarc/ludarc/engine/Domains", "isMarked", "(II)Z"⟩ : MethodName)) (z := (⟨"com/example/ludarc/ludarc/engine/Domains", "isMarked", "(II)Z"⟩ : MethodName)) hown (mvT hZ (hw _ (List.mem_of_getElem? (i := 147) rfl))) (mvT hZ (hw _ (List.mem_of_getElem? (i := 148) rfl))) (notFace_of_selects (args := #[]) (mvT hZ (hw _ (List.mem_of_getElem? (i := 150) rfl)))) (mvT hZ (hw _ (List.mem_of_getElem? (i := 150) rfl))) (mvT hZ (hw _ (List.mem_of_getElem? (i := 149) rfl))) (by decide) (backOf (W := 0) (rmI0 l Z a0 hw [] b789 mem_ pos_ siz_ mrk_ m0_ p0_ k0_ m1_ p1_ k1_ (2 : Int32) (own_sz) (own_id) (own_id) (own_up (own_zero) (((p2 &&& (2147483647 : Int32)) % (3 : Int32))).toNatClampNeg (1 : Int32)) (own_id) (own_id) (own_up (own_up (own_up (own_up (own_zero) (((p0 &&& (2147483647 : Int32)) % (2 : Int32))).toNatClampNeg (1 : Int32)) (((p1 &&& (2147483647 : Int32)) % (2 : Int32))).toNatClampNeg (1 : Int32)) (((p0 &&& (2147483647 : Int32)) % (2 : Int32))).toNatClampNeg (1 : Int32)) (((p1 &&& (2147483647 : Int32)) % (2 : Int32))).toNatClampNeg (2 : Int32)) (0 : Int32) ((p2 &&& (2147483647 : Int32)) % (3 : Int32)) T916.heap n0 f922 ord794 dom916 hc_ (own_b0 (by simp [own_up]))) hZ (hw _ (List.mem_of_getElem? (i := 151) rfl)) (hw _ (List.mem_of_getElem? (i := 87) rfl)) (by decide) (by decide)) q921a q921c (g := (mkF m 234 #[.val (.int p0), .val (.int p1), .val (.int p2), .val (.int p3), .val (.int (1 : Int32)), .val (.int (1 : Int32)), .val (.int (1 : Int32)), .val (.int (0 : Int32)), .val (.int (2 : Int32)), .val (.int (3 : Int32)), .val (.int ((p0 &&& (2147483647 : Int32)) % (2 : Int32))), .val (.int ((p1 &&& (2147483647 : Int32)) % (2 : Int32))), .val (.int ((p2 &&& (2147483647 : Int32)) % (3 : Int32))), .val (.ref b714), .val (.ref b789), .val (.int (1 : Int32)), .val (.int (own_b (¬ ((p1 &&& (2147483647 : Int32)) % (2 : Int32)) = ((p0 &&& (2147483647 : Int32)) % (2 : Int32))))), .val (.int (1 : Int32)), .val (.int (0 : Int32)), .val (.int (1 : Int32)), .unset, .unset] [(.int ((p2 &&& (2147483647 : Int32)) % (3 : Int32))), (.int (0 : Int32)), (.ref b789)])) rfl (by rw [hml]; rfl) (Steps.refl _) (argsL := [(.int (0 : Int32)), (.int ((p2 &&& (2147483647 : Int32)) % (3 : Int32)))]) (rest := []) (lenOf pd_11 rfl) rfl (by show 2 * 0 + _ ≤ _; exact Nat.le_of_eq rfl) (hb hby at_234) (fun _ _ => ⟨rfl, rfl, (by decide : 21 + 0 ≤ _), (by decide : 72 + 0 ≤ _)⟩)
      dsimp only [Pt.U, Pt.locs, Pt.cells, Pt.slots] at X921 l921 y921 z921 st921 hQ921
      obtain rfl : k921 = 21 := y921
      obtain rfl : n921 = 72 := z921
      obtain ⟨rfl, N921q, e921⟩ := hQ921
      have N921 : Fr n0 L921 := by rw [l921]; exact Fr.app N916 N921q
      have G924 : Go p e below A0 (T921.setTop (mkF m 237 #[.val (.int p0), .val (.int p1), .val (.int p2), .val (.int p3), .val (.int (1 : Int32)), .val (.int (1 : Int32)), .val (.int (1 : Int32)), .val (.int (0 : Int32)), .val (.int (2 : Int32)), .val (.int (3 : Int32)), .val (.int ((p0 &&& (2147483647 : Int32)) % (2 : Int32))), .val (.int ((p1 &&& (2147483647 : Int32)) % (2 : Int32))), .val (.int ((p2 &&& (2147483647 : Int32)) % (3 : Int32))), .val (.ref b714), .val (.ref b789), .val (.int (1 : Int32)), .val (.int (own_b (¬ ((p1 &&& (2147483647 : Int32)) % (2 : Int32)) = ((p0 &&& (2147483647 : Int32)) % (2 : Int32))))), .val (.int (1 : Int32)), .val (.int (0 : Int32)), .val (.int (1 : Int32)), .unset, .unset] [(.int (0 : Int32))])) := fun tq kq => G920 tq (st921.trans kq)
      have G925 : Go p e below A0 (T921.setTop (mkF m 250 #[.val (.int p0), .val (.int p1), .val (.int p2), .val (.int p3), .val (.int (1 : Int32)), .val (.int (1 : Int32)), .val (.int (1 : Int32)), .val (.int (0 : Int32)), .val (.int (2 : Int32)), .val (.int (3 : Int32)), .val (.int ((p0 &&& (2147483647 : Int32)) % (2 : Int32))), .val (.int ((p1 &&& (2147483647 : Int32)) % (2 : Int32))), .val (.int ((p2 &&& (2147483647 : Int32)) % (3 : Int32))), .val (.ref b714), .val (.ref b789), .val (.int (1 : Int32)), .val (.int (own_b (¬ ((p1 &&& (2147483647 : Int32)) % (2 : Int32)) = ((p0 &&& (2147483647 : Int32)) % (2 : Int32))))), .val (.int (1 : Int32)), .val (.int (0 : Int32)), .val (.int (1 : Int32)), .val (.int (0 : Int32)), .val (.int (1 : Int32))] [(.int (own_b (¬ ((p1 &&& (2147483647 : Int32)) % (2 : Int32)) = ((p0 &&& (2147483647 : Int32)) % (2 : Int32)))))])) := fun tq kq => G924 tq (by
        refine XS.istore X921.here hx rfl (hb hby at_237) rfl (l' := #[.val (.int p0), .val (.int p1), .val (.int p2), .val (.int p3), .val (.int (1 : Int32)), .val (.int (1 : Int32)), .val (.int (1 : Int32)), .val (.int (0 : Int32)), .val (.int (2 : Int32)), .val (.int (3 : Int32)), .val (.int ((p0 &&& (2147483647 : Int32)) % (2 : Int32))), .val (.int ((p1 &&& (2147483647 : Int32)) % (2 : Int32))), .val (.int ((p2 &&& (2147483647 : Int32)) % (3 : Int32))), .val (.ref b714), .val (.ref b789), .val (.int (1 : Int32)), .val (.int (own_b (¬ ((p1 &&& (2147483647 : Int32)) % (2 : Int32)) = ((p0 &&& (2147483647 : Int32)) % (2 : Int32))))), .val (.int (1 : Int32)), .val (.int (0 : Int32)), .val (.int (1 : Int32)), .val (.int (0 : Int32)), .unset]) rfl ?_
        show Steps p.tables e below (T921.setTop (mkF m 239 #[.val (.int p0), .val (.int p1), .val (.int p2), .val (.int p3), .val (.int (1 : Int32)), .val (.int (1 : Int32)), .val (.int (1 : Int32)), .val (.int (0 : Int32)), .val (.int (2 : Int32)), .val (.int (3 : Int32)), .val (.int ((p0 &&& (2147483647 : Int32)) % (2 : Int32))), .val (.int ((p1 &&& (2147483647 : Int32)) % (2 : Int32))), .val (.int ((p2 &&& (2147483647 : Int32)) % (3 : Int32))), .val (.ref b714), .val (.ref b789), .val (.int (1 : Int32)), .val (.int (own_b (¬ ((p1 &&& (2147483647 : Int32)) % (2 : Int32)) = ((p0 &&& (2147483647 : Int32)) % (2 : Int32))))), .val (.int (1 : Int32)), .val (.int (0 : Int32)), .val (.int (1 : Int32)), .val (.int (0 : Int32)), .unset] [])) _
        refine XS.iload X921.here hx rfl (hb hby at_239) rfl ?_
        show Steps p.tables e below (T921.setTop (mkF m 241 #[.val (.int p0), .val (.int p1), .val (.int p2), .val (.int p3), .val (.int (1 : Int32)), .val (.int (1 : Int32)), .val (.int (1 : Int32)), .val (.int (0 : Int32)), .val (.int (2 : Int32)), .val (.int (3 : Int32)), .val (.int ((p0 &&& (2147483647 : Int32)) % (2 : Int32))), .val (.int ((p1 &&& (2147483647 : Int32)) % (2 : Int32))), .val (.int ((p2 &&& (2147483647 : Int32)) % (3 : Int32))), .val (.ref b714), .val (.ref b789), .val (.int (1 : Int32)), .val (.int (own_b (¬ ((p1 &&& (2147483647 : Int32)) % (2 : Int32)) = ((p0 &&& (2147483647 : Int32)) % (2 : Int32))))), .val (.int (1 : Int32)), .val (.int (0 : Int32)), .val (.int (1 : Int32)), .val (.int (0 : Int32)), .unset] [(.int (1 : Int32))])) _
        refine XS.istore X921.here hx rfl (hb hby at_241) rfl (l' := #[.val (.int p0), .val (.int p1), .val (.int p2), .val (.int p3), .val (.int (1 : Int32)), .val (.int (1 : Int32)), .val (.int (1 : Int32)), .val (.int (0 : Int32)), .val (.int (2 : Int32)), .val (.int (3 : Int32)), .val (.int ((p0 &&& (2147483647 : Int32)) % (2 : Int32))), .val (.int ((p1 &&& (2147483647 : Int32)) % (2 : Int32))), .val (.int ((p2 &&& (2147483647 : Int32)) % (3 : Int32))), .val (.ref b714), .val (.ref b789), .val (.int (1 : Int32)), .val (.int (own_b (¬ ((p1 &&& (2147483647 : Int32)) % (2 : Int32)) = ((p0 &&& (2147483647 : Int32)) % (2 : Int32))))), .val (.int (1 : Int32)), .val (.int (0 : Int32)), .val (.int (1 : Int32)), .val (.int (0 : Int32)), .val (.int (1 : Int32))]) rfl ?_
        show Steps p.tables e below (T921.setTop (mkF m 243 #[.val (.int p0), .val (.int p1), .val (.int p2), .val (.int p3), .val (.int (1 : Int32)), .val (.int (1 : Int32)), .val (.int (1 : Int32)), .val (.int (0 : Int32)), .val (.int (2 : Int32)), .val (.int (3 : Int32)), .val (.int ((p0 &&& (2147483647 : Int32)) % (2 : Int32))), .val (.int ((p1 &&& (2147483647 : Int32)) % (2 : Int32))), .val (.int ((p2 &&& (2147483647 : Int32)) % (3 : Int32))), .val (.ref b714), .val (.ref b789), .val (.int (1 : Int32)), .val (.int (own_b (¬ ((p1 &&& (2147483647 : Int32)) % (2 : Int32)) = ((p0 &&& (2147483647 : Int32)) % (2 : Int32))))), .val (.int (1 : Int32)), .val (.int (0 : Int32)), .val (.int (1 : Int32)), .val (.int (0 : Int32)), .val (.int (1 : Int32))] [])) _
        refine XS.iload X921.here hx rfl (hb hby at_243) rfl ?_
        show Steps p.tables e below (T921.setTop (mkF m 245 #[.val (.int p0), .val (.int p1), .val (.int p2), .val (.int p3), .val (.int (1 : Int32)), .val (.int (1 : Int32)), .val (.int (1 : Int32)), .val (.int (0 : Int32)), .val (.int (2 : Int32)), .val (.int (3 : Int32)), .val (.int ((p0 &&& (2147483647 : Int32)) % (2 : Int32))), .val (.int ((p1 &&& (2147483647 : Int32)) % (2 : Int32))), .val (.int ((p2 &&& (2147483647 : Int32)) % (3 : Int32))), .val (.ref b714), .val (.ref b789), .val (.int (1 : Int32)), .val (.int (own_b (¬ ((p1 &&& (2147483647 : Int32)) % (2 : Int32)) = ((p0 &&& (2147483647 : Int32)) % (2 : Int32))))), .val (.int (1 : Int32)), .val (.int (0 : Int32)), .val (.int (1 : Int32)), .val (.int (0 : Int32)), .val (.int (1 : Int32))] [(.int (1 : Int32))])) _
        refine XS.ifNo X921.here hx rfl (hb hby at_245) rfl (by decide) ?_
        show Steps p.tables e below (T921.setTop (mkF m 248 #[.val (.int p0), .val (.int p1), .val (.int p2), .val (.int p3), .val (.int (1 : Int32)), .val (.int (1 : Int32)), .val (.int (1 : Int32)), .val (.int (0 : Int32)), .val (.int (2 : Int32)), .val (.int (3 : Int32)), .val (.int ((p0 &&& (2147483647 : Int32)) % (2 : Int32))), .val (.int ((p1 &&& (2147483647 : Int32)) % (2 : Int32))), .val (.int ((p2 &&& (2147483647 : Int32)) % (3 : Int32))), .val (.ref b714), .val (.ref b789), .val (.int (1 : Int32)), .val (.int (own_b (¬ ((p1 &&& (2147483647 : Int32)) % (2 : Int32)) = ((p0 &&& (2147483647 : Int32)) % (2 : Int32))))), .val (.int (1 : Int32)), .val (.int (0 : Int32)), .val (.int (1 : Int32)), .val (.int (0 : Int32)), .val (.int (1 : Int32))] [])) _
        refine XS.iload X921.here hx rfl (hb hby at_248) rfl ?_
        show Steps p.tables e below (T921.setTop (mkF m 250 #[.val (.int p0), .val (.int p1), .val (.int p2), .val (.int p3), .val (.int (1 : Int32)), .val (.int (1 : Int32)), .val (.int (1 : Int32)), .val (.int (0 : Int32)), .val (.int (2 : Int32)), .val (.int (3 : Int32)), .val (.int ((p0 &&& (2147483647 : Int32)) % (2 : Int32))), .val (.int ((p1 &&& (2147483647 : Int32)) % (2 : Int32))), .val (.int ((p2 &&& (2147483647 : Int32)) % (3 : Int32))), .val (.ref b714), .val (.ref b789), .val (.int (1 : Int32)), .val (.int (own_b (¬ ((p1 &&& (2147483647 : Int32)) % (2 : Int32)) = ((p0 &&& (2147483647 : Int32)) % (2 : Int32))))), .val (.int (1 : Int32)), .val (.int (0 : Int32)), .val (.int (1 : Int32)), .val (.int (0 : Int32)), .val (.int (1 : Int32))] [(.int (own_b (¬ ((p1 &&& (2147483647 : Int32)) % (2 : Int32)) = ((p0 &&& (2147483647 : Int32)) % (2 : Int32)))))])) _
        exact kq)
      obtain ⟨ne_, hG926, G926⟩ : ∃ (ne_ : Int32), (ne_ = own_b (¬ ((p1 &&& (2147483647 : Int32)) % (2 : Int32)) = ((p0 &&& (2147483647 : Int32)) % (2 : Int32)))) ∧ Go p e below A0 (T921.setTop (mkF m 262 #[.val (.int p0), .val (.int p1), .val (.int p2), .val (.int p3), .val (.int (1 : Int32)), .val (.int (1 : Int32)), .val (.int (1 : Int32)), .val (.int (0 : Int32)), .val (.int (2 : Int32)), .val (.int (3 : Int32)), .val (.int ((p0 &&& (2147483647 : Int32)) % (2 : Int32))), .val (.int ((p1 &&& (2147483647 : Int32)) % (2 : Int32))), .val (.int ((p2 &&& (2147483647 : Int32)) % (3 : Int32))), .val (.ref b714), .val (.ref b789), .val (.int (1 : Int32)), .val (.int (own_b (¬ ((p1 &&& (2147483647 : Int32)) % (2 : Int32)) = ((p0 &&& (2147483647 : Int32)) % (2 : Int32))))), .val (.int (1 : Int32)), .val (.int (0 : Int32)), .val (.int (1 : Int32)), .val (.int (0 : Int32)), .val (.int (1 : Int32))] [(.int ne_), (.int (own_b (¬ ((p1 &&& (2147483647 : Int32)) % (2 : Int32)) = ((p0 &&& (2147483647 : Int32)) % (2 : Int32)))))])) := by
        have G927 : Go p e below A0 (T921.setTop (mkF m 254 #[.val (.int p0), .val (.int p1), .val (.int p2), .val (.int p3), .val (.int (1 : Int32)), .val (.int (1 : Int32)), .val (.int (1 : Int32)), .val (.int (0 : Int32)), .val (.int (2 : Int32)), .val (.int (3 : Int32)), .val (.int ((p0 &&& (2147483647 : Int32)) % (2 : Int32))), .val (.int ((p1 &&& (2147483647 : Int32)) % (2 : Int32))), .val (.int ((p2 &&& (2147483647 : Int32)) % (3 : Int32))), .val (.ref b714), .val (.ref b789), .val (.int (1 : Int32)), .val (.int (own_b (¬ ((p1 &&& (2147483647 : Int32)) % (2 : Int32)) = ((p0 &&& (2147483647 : Int32)) % (2 : Int32))))), .val (.int (1 : Int32)), .val (.int (0 : Int32)), .val (.int (1 : Int32)), .val (.int (0 : Int32)), .val (.int (1 : Int32))] [(.int ((p0 &&& (2147483647 : Int32)) % (2 : Int32))), (.int ((p1 &&& (2147483647 : Int32)) % (2 : Int32))), (.int (own_b (¬ ((p1 &&& (2147483647 : Int32)) % (2 : Int32)) = ((p0 &&& (2147483647 : Int32)) % (2 : Int32)))))])) := fun tq kq => G925 tq (by
          refine XS.iload X921.here hx rfl (hb hby at_250) rfl ?_
          show Steps p.tables e below (T921.setTop (mkF m 252 #[.val (.int p0), .val (.int p1), .val (.int p2), .val (.int p3), .val (.int (1 : Int32)), .val (.int (1 : Int32)), .val (.int (1 : Int32)), .val (.int (0 : Int32)), .val (.int (2 : Int32)), .val (.int (3 : Int32)), .val (.int ((p0 &&& (2147483647 : Int32)) % (2 : Int32))), .val (.int ((p1 &&& (2147483647 : Int32)) % (2 : Int32))), .val (.int ((p2 &&& (2147483647 : Int32)) % (3 : Int32))), .val (.ref b714), .val (.ref b789), .val (.int (1 : Int32)), .val (.int (own_b (¬ ((p1 &&& (2147483647 : Int32)) % (2 : Int32)) = ((p0 &&& (2147483647 : Int32)) % (2 : Int32))))), .val (.int (1 : Int32)), .val (.int (0 : Int32)), .val (.int (1 : Int32)), .val (.int (0 : Int32)), .val (.int (1 : Int32))] [(.int ((p1 &&& (2147483647 : Int32)) % (2 : Int32))), (.int (own_b (¬ ((p1 &&& (2147483647 : Int32)) % (2 : Int32)) = ((p0 &&& (2147483647 : Int32)) % (2 : Int32)))))])) _
          refine XS.iload X921.here hx rfl (hb hby at_252) rfl ?_
          show Steps p.tables e below (T921.setTop (mkF m 254 #[.val (.int p0), .val (.int p1), .val (.int p2), .val (.int p3), .val (.int (1 : Int32)), .val (.int (1 : Int32)), .val (.int (1 : Int32)), .val (.int (0 : Int32)), .val (.int (2 : Int32)), .val (.int (3 : Int32)), .val (.int ((p0 &&& (2147483647 : Int32)) % (2 : Int32))), .val (.int ((p1 &&& (2147483647 : Int32)) % (2 : Int32))), .val (.int ((p2 &&& (2147483647 : Int32)) % (3 : Int32))), .val (.ref b714), .val (.ref b789), .val (.int (1 : Int32)), .val (.int (own_b (¬ ((p1 &&& (2147483647 : Int32)) % (2 : Int32)) = ((p0 &&& (2147483647 : Int32)) % (2 : Int32))))), .val (.int (1 : Int32)), .val (.int (0 : Int32)), .val (.int (1 : Int32)), .val (.int (0 : Int32)), .val (.int (1 : Int32))] [(.int ((p0 &&& (2147483647 : Int32)) % (2 : Int32))), (.int ((p1 &&& (2147483647 : Int32)) % (2 : Int32))), (.int (own_b (¬ ((p1 &&& (2147483647 : Int32)) % (2 : Int32)) = ((p0 &&& (2147483647 : Int32)) % (2 : Int32)))))])) _
          exact kq)
        by_cases hc928 : ((p1 &&& (2147483647 : Int32)) % (2 : Int32)) = ((p0 &&& (2147483647 : Int32)) % (2 : Int32))
        · have G929 : Go p e below A0 (T921.setTop (mkF m 262 #[.val (.int p0), .val (.int p1), .val (.int p2), .val (.int p3), .val (.int (1 : Int32)), .val (.int (1 : Int32)), .val (.int (1 : Int32)), .val (.int (0 : Int32)), .val (.int (2 : Int32)), .val (.int (3 : Int32)), .val (.int ((p0 &&& (2147483647 : Int32)) % (2 : Int32))), .val (.int ((p1 &&& (2147483647 : Int32)) % (2 : Int32))), .val (.int ((p2 &&& (2147483647 : Int32)) % (3 : Int32))), .val (.ref b714), .val (.ref b789), .val (.int (1 : Int32)), .val (.int (own_b (¬ ((p1 &&& (2147483647 : Int32)) % (2 : Int32)) = ((p0 &&& (2147483647 : Int32)) % (2 : Int32))))), .val (.int (1 : Int32)), .val (.int (0 : Int32)), .val (.int (1 : Int32)), .val (.int (0 : Int32)), .val (.int (1 : Int32))] [(.int (0 : Int32)), (.int (own_b (¬ ((p1 &&& (2147483647 : Int32)) % (2 : Int32)) = ((p0 &&& (2147483647 : Int32)) % (2 : Int32)))))])) := fun tq kq => G927 tq (by
            refine XS.icmpYes X921.here hx rfl (pc0 := 254) (pc' := 261) rfl (hb hby at_254) rfl (teq hc928).1 (by decide) (by decide) ?_
            show Steps p.tables e below (T921.setTop (mkF m 261 #[.val (.int p0), .val (.int p1), .val (.int p2), .val (.int p3), .val (.int (1 : Int32)), .val (.int (1 : Int32)), .val (.int (1 : Int32)), .val (.int (0 : Int32)), .val (.int (2 : Int32)), .val (.int (3 : Int32)), .val (.int ((p0 &&& (2147483647 : Int32)) % (2 : Int32))), .val (.int ((p1 &&& (2147483647 : Int32)) % (2 : Int32))), .val (.int ((p2 &&& (2147483647 : Int32)) % (3 : Int32))), .val (.ref b714), .val (.ref b789), .val (.int (1 : Int32)), .val (.int (own_b (¬ ((p1 &&& (2147483647 : Int32)) % (2 : Int32)) = ((p0 &&& (2147483647 : Int32)) % (2 : Int32))))), .val (.int (1 : Int32)), .val (.int (0 : Int32)), .val (.int (1 : Int32)), .val (.int (0 : Int32)), .val (.int (1 : Int32))] [(.int (own_b (¬ ((p1 &&& (2147483647 : Int32)) % (2 : Int32)) = ((p0 &&& (2147483647 : Int32)) % (2 : Int32)))))])) _
            refine XS.iconst X921.here hx rfl (hb hby at_261) ?_
            show Steps p.tables e below (T921.setTop (mkF m 262 #[.val (.int p0), .val (.int p1), .val (.int p2), .val (.int p3), .val (.int (1 : Int32)), .val (.int (1 : Int32)), .val (.int (1 : Int32)), .val (.int (0 : Int32)), .val (.int (2 : Int32)), .val (.int (3 : Int32)), .val (.int ((p0 &&& (2147483647 : Int32)) % (2 : Int32))), .val (.int ((p1 &&& (2147483647 : Int32)) % (2 : Int32))), .val (.int ((p2 &&& (2147483647 : Int32)) % (3 : Int32))), .val (.ref b714), .val (.ref b789), .val (.int (1 : Int32)), .val (.int (own_b (¬ ((p1 &&& (2147483647 : Int32)) % (2 : Int32)) = ((p0 &&& (2147483647 : Int32)) % (2 : Int32))))), .val (.int (1 : Int32)), .val (.int (0 : Int32)), .val (.int (1 : Int32)), .val (.int (0 : Int32)), .val (.int (1 : Int32))] [(.int (0 : Int32)), (.int (own_b (¬ ((p1 &&& (2147483647 : Int32)) % (2 : Int32)) = ((p0 &&& (2147483647 : Int32)) % (2 : Int32)))))])) _
            exact kq)
          exact ⟨(0 : Int32), (by simp only [own_b, hc928, not_true_eq_false, not_false_eq_true, if_true, if_false, or_true, true_or, or_false, false_or, and_true, true_and, and_false, false_and, and_self, or_self]), G929⟩
        · have G930 : Go p e below A0 (T921.setTop (mkF m 262 #[.val (.int p0), .val (.int p1), .val (.int p2), .val (.int p3), .val (.int (1 : Int32)), .val (.int (1 : Int32)), .val (.int (1 : Int32)), .val (.int (0 : Int32)), .val (.int (2 : Int32)), .val (.int (3 : Int32)), .val (.int ((p0 &&& (2147483647 : Int32)) % (2 : Int32))), .val (.int ((p1 &&& (2147483647 : Int32)) % (2 : Int32))), .val (.int ((p2 &&& (2147483647 : Int32)) % (3 : Int32))), .val (.ref b714), .val (.ref b789), .val (.int (1 : Int32)), .val (.int (own_b (¬ ((p1 &&& (2147483647 : Int32)) % (2 : Int32)) = ((p0 &&& (2147483647 : Int32)) % (2 : Int32))))), .val (.int (1 : Int32)), .val (.int (0 : Int32)), .val (.int (1 : Int32)), .val (.int (0 : Int32)), .val (.int (1 : Int32))] [(.int (1 : Int32)), (.int (own_b (¬ ((p1 &&& (2147483647 : Int32)) % (2 : Int32)) = ((p0 &&& (2147483647 : Int32)) % (2 : Int32)))))])) := fun tq kq => G927 tq (by
            refine XS.icmpNo X921.here hx rfl (hb hby at_254) rfl (feq hc928).1 ?_
            show Steps p.tables e below (T921.setTop (mkF m 257 #[.val (.int p0), .val (.int p1), .val (.int p2), .val (.int p3), .val (.int (1 : Int32)), .val (.int (1 : Int32)), .val (.int (1 : Int32)), .val (.int (0 : Int32)), .val (.int (2 : Int32)), .val (.int (3 : Int32)), .val (.int ((p0 &&& (2147483647 : Int32)) % (2 : Int32))), .val (.int ((p1 &&& (2147483647 : Int32)) % (2 : Int32))), .val (.int ((p2 &&& (2147483647 : Int32)) % (3 : Int32))), .val (.ref b714), .val (.ref b789), .val (.int (1 : Int32)), .val (.int (own_b (¬ ((p1 &&& (2147483647 : Int32)) % (2 : Int32)) = ((p0 &&& (2147483647 : Int32)) % (2 : Int32))))), .val (.int (1 : Int32)), .val (.int (0 : Int32)), .val (.int (1 : Int32)), .val (.int (0 : Int32)), .val (.int (1 : Int32))] [(.int (own_b (¬ ((p1 &&& (2147483647 : Int32)) % (2 : Int32)) = ((p0 &&& (2147483647 : Int32)) % (2 : Int32)))))])) _
            refine XS.iconst X921.here hx rfl (hb hby at_257) ?_
            show Steps p.tables e below (T921.setTop (mkF m 258 #[.val (.int p0), .val (.int p1), .val (.int p2), .val (.int p3), .val (.int (1 : Int32)), .val (.int (1 : Int32)), .val (.int (1 : Int32)), .val (.int (0 : Int32)), .val (.int (2 : Int32)), .val (.int (3 : Int32)), .val (.int ((p0 &&& (2147483647 : Int32)) % (2 : Int32))), .val (.int ((p1 &&& (2147483647 : Int32)) % (2 : Int32))), .val (.int ((p2 &&& (2147483647 : Int32)) % (3 : Int32))), .val (.ref b714), .val (.ref b789), .val (.int (1 : Int32)), .val (.int (own_b (¬ ((p1 &&& (2147483647 : Int32)) % (2 : Int32)) = ((p0 &&& (2147483647 : Int32)) % (2 : Int32))))), .val (.int (1 : Int32)), .val (.int (0 : Int32)), .val (.int (1 : Int32)), .val (.int (0 : Int32)), .val (.int (1 : Int32))] [(.int (1 : Int32)), (.int (own_b (¬ ((p1 &&& (2147483647 : Int32)) % (2 : Int32)) = ((p0 &&& (2147483647 : Int32)) % (2 : Int32)))))])) _
            refine XS.goto X921.here hx rfl (pc0 := 258) (pc' := 262) rfl (hb hby at_258) (by decide) (by decide) ?_
            show Steps p.tables e below (T921.setTop (mkF m 262 #[.val (.int p0), .val (.int p1), .val (.int p2), .val (.int p3), .val (.int (1 : Int32)), .val (.int (1 : Int32)), .val (.int (1 : Int32)), .val (.int (0 : Int32)), .val (.int (2 : Int32)), .val (.int (3 : Int32)), .val (.int ((p0 &&& (2147483647 : Int32)) % (2 : Int32))), .val (.int ((p1 &&& (2147483647 : Int32)) % (2 : Int32))), .val (.int ((p2 &&& (2147483647 : Int32)) % (3 : Int32))), .val (.ref b714), .val (.ref b789), .val (.int (1 : Int32)), .val (.int (own_b (¬ ((p1 &&& (2147483647 : Int32)) % (2 : Int32)) = ((p0 &&& (2147483647 : Int32)) % (2 : Int32))))), .val (.int (1 : Int32)), .val (.int (0 : Int32)), .val (.int (1 : Int32)), .val (.int (0 : Int32)), .val (.int (1 : Int32))] [(.int (1 : Int32)), (.int (own_b (¬ ((p1 &&& (2147483647 : Int32)) % (2 : Int32)) = ((p0 &&& (2147483647 : Int32)) % (2 : Int32)))))])) _
            exact kq)
          exact ⟨(1 : Int32), (by simp only [own_b, hc928, not_true_eq_false, not_false_eq_true, if_true, if_false, or_true, true_or, or_false, false_or, and_true, true_and, and_false, false_and, and_self, or_self]), G930⟩
      subst hG926
      have G931 : Go p e below A0 (T921.setTop (mkF m 354 #[.val (.int p0), .val (.int p1), .val (.int p2), .val (.int p3), .val (.int (1 : Int32)), .val (.int (1 : Int32)), .val (.int (1 : Int32)), .val (.int (0 : Int32)), .val (.int (2 : Int32)), .val (.int (3 : Int32)), .val (.int ((p0 &&& (2147483647 : Int32)) % (2 : Int32))), .val (.int ((p1 &&& (2147483647 : Int32)) % (2 : Int32))), .val (.int ((p2 &&& (2147483647 : Int32)) % (3 : Int32))), .val (.ref b714), .val (.ref b789), .val (.int (1 : Int32)), .val (.int (own_b (¬ ((p1 &&& (2147483647 : Int32)) % (2 : Int32)) = ((p0 &&& (2147483647 : Int32)) % (2 : Int32))))), .val (.int (1 : Int32)), .val (.int (0 : Int32)), .val (.int (1 : Int32)), .val (.int (0 : Int32)), .val (.int (1 : Int32))] [(.int (1 : Int32))])) := fun tq kq => G926 tq (by
        refine XS.icmpNo X921.here hx rfl (hb hby at_262) rfl (teq (rfl : (own_b (¬ ((p1 &&& (2147483647 : Int32)) % (2 : Int32)) = ((p0 &&& (2147483647 : Int32)) % (2 : Int32)))) = (own_b (¬ ((p1 &&& (2147483647 : Int32)) % (2 : Int32)) = ((p0 &&& (2147483647 : Int32)) % (2 : Int32)))))).2 ?_
        show Steps p.tables e below (T921.setTop (mkF m 265 #[.val (.int p0), .val (.int p1), .val (.int p2), .val (.int p3), .val (.int (1 : Int32)), .val (.int (1 : Int32)), .val (.int (1 : Int32)), .val (.int (0 : Int32)), .val (.int (2 : Int32)), .val (.int (3 : Int32)), .val (.int ((p0 &&& (2147483647 : Int32)) % (2 : Int32))), .val (.int ((p1 &&& (2147483647 : Int32)) % (2 : Int32))), .val (.int ((p2 &&& (2147483647 : Int32)) % (3 : Int32))), .val (.ref b714), .val (.ref b789), .val (.int (1 : Int32)), .val (.int (own_b (¬ ((p1 &&& (2147483647 : Int32)) % (2 : Int32)) = ((p0 &&& (2147483647 : Int32)) % (2 : Int32))))), .val (.int (1 : Int32)), .val (.int (0 : Int32)), .val (.int (1 : Int32)), .val (.int (0 : Int32)), .val (.int (1 : Int32))] [])) _
        refine XS.iconst X921.here hx rfl (hb hby at_265) ?_
        show Steps p.tables e below (T921.setTop (mkF m 266 #[.val (.int p0), .val (.int p1), .val (.int p2), .val (.int p3), .val (.int (1 : Int32)), .val (.int (1 : Int32)), .val (.int (1 : Int32)), .val (.int (0 : Int32)), .val (.int (2 : Int32)), .val (.int (3 : Int32)), .val (.int ((p0 &&& (2147483647 : Int32)) % (2 : Int32))), .val (.int ((p1 &&& (2147483647 : Int32)) % (2 : Int32))), .val (.int ((p2 &&& (2147483647 : Int32)) % (3 : Int32))), .val (.ref b714), .val (.ref b789), .val (.int (1 : Int32)), .val (.int (own_b (¬ ((p1 &&& (2147483647 : Int32)) % (2 : Int32)) = ((p0 &&& (2147483647 : Int32)) % (2 : Int32))))), .val (.int (1 : Int32)), .val (.int (0 : Int32)), .val (.int (1 : Int32)), .val (.int (0 : Int32)), .val (.int (1 : Int32))] [(.int (1 : Int32))])) _
        refine XS.goto X921.here hx rfl (pc0 := 266) (pc' := 270) rfl (hb hby at_266) (by decide) (by decide) ?_
        show Steps p.tables e below (T921.setTop (mkF m 270 #[.val (.int p0), .val (.int p1), .val (.int p2), .val (.int p3), .val (.int (1 : Int32)), .val (.int (1 : Int32)), .val (.int (1 : Int32)), .val (.int (0 : Int32)), .val (.int (2 : Int32)), .val (.int (3 : Int32)), .val (.int ((p0 &&& (2147483647 : Int32)) % (2 : Int32))), .val (.int ((p1 &&& (2147483647 : Int32)) % (2 : Int32))), .val (.int ((p2 &&& (2147483647 : Int32)) % (3 : Int32))), .val (.ref b714), .val (.ref b789), .val (.int (1 : Int32)), .val (.int (own_b (¬ ((p1 &&& (2147483647 : Int32)) % (2 : Int32)) = ((p0 &&& (2147483647 : Int32)) % (2 : Int32))))), .val (.int (1 : Int32)), .val (.int (0 : Int32)), .val (.int (1 : Int32)), .val (.int (0 : Int32)), .val (.int (1 : Int32))] [(.int (1 : Int32))])) _
        refine XS.istore X921.here hx rfl (hb hby at_270) rfl (l' := #[.val (.int p0), .val (.int p1), .val (.int p2), .val (.int p3), .val (.int (1 : Int32)), .val (.int (1 : Int32)), .val (.int (1 : Int32)), .val (.int (0 : Int32)), .val (.int (2 : Int32)), .val (.int (3 : Int32)), .val (.int ((p0 &&& (2147483647 : Int32)) % (2 : Int32))), .val (.int ((p1 &&& (2147483647 : Int32)) % (2 : Int32))), .val (.int ((p2 &&& (2147483647 : Int32)) % (3 : Int32))), .val (.ref b714), .val (.ref b789), .val (.int (1 : Int32)), .val (.int (own_b (¬ ((p1 &&& (2147483647 : Int32)) % (2 : Int32)) = ((p0 &&& (2147483647 : Int32)) % (2 : Int32))))), .val (.int (1 : Int32)), .val (.int (0 : Int32)), .val (.int (1 : Int32)), .val (.int (0 : Int32)), .val (.int (1 : Int32))]) rfl ?_
        show Steps p.tables e below (T921.setTop (mkF m 272 #[.val (.int p0), .val (.int p1), .val (.int p2), .val (.int p3), .val (.int (1 : Int32)), .val (.int (1 : Int32)), .val (.int (1 : Int32)), .val (.int (0 : Int32)), .val (.int (2 : Int32)), .val (.int (3 : Int32)), .val (.int ((p0 &&& (2147483647 : Int32)) % (2 : Int32))), .val (.int ((p1 &&& (2147483647 : Int32)) % (2 : Int32))), .val (.int ((p2 &&& (2147483647 : Int32)) % (3 : Int32))), .val (.ref b714), .val (.ref b789), .val (.int (1 : Int32)), .val (.int (own_b (¬ ((p1 &&& (2147483647 : Int32)) % (2 : Int32)) = ((p0 &&& (2147483647 : Int32)) % (2 : Int32))))), .val (.int (1 : Int32)), .val (.int (0 : Int32)), .val (.int (1 : Int32)), .val (.int (0 : Int32)), .val (.int (1 : Int32))] [])) _
        refine XS.iload X921.here hx rfl (hb hby at_272) rfl ?_
        show Steps p.tables e below (T921.setTop (mkF m 274 #[.val (.int p0), .val (.int p1), .val (.int p2), .val (.int p3), .val (.int (1 : Int32)), .val (.int (1 : Int32)), .val (.int (1 : Int32)), .val (.int (0 : Int32)), .val (.int (2 : Int32)), .val (.int (3 : Int32)), .val (.int ((p0 &&& (2147483647 : Int32)) % (2 : Int32))), .val (.int ((p1 &&& (2147483647 : Int32)) % (2 : Int32))), .val (.int ((p2 &&& (2147483647 : Int32)) % (3 : Int32))), .val (.ref b714), .val (.ref b789), .val (.int (1 : Int32)), .val (.int (own_b (¬ ((p1 &&& (2147483647 : Int32)) % (2 : Int32)) = ((p0 &&& (2147483647 : Int32)) % (2 : Int32))))), .val (.int (1 : Int32)), .val (.int (0 : Int32)), .val (.int (1 : Int32)), .val (.int (0 : Int32)), .val (.int (1 : Int32))] [(.int (1 : Int32))])) _
        refine XS.ifNo X921.here hx rfl (hb hby at_274) rfl (by decide) ?_
        show Steps p.tables e below (T921.setTop (mkF m 277 #[.val (.int p0), .val (.int p1), .val (.int p2), .val (.int p3), .val (.int (1 : Int32)), .val (.int (1 : Int32)), .val (.int (1 : Int32)), .val (.int (0 : Int32)), .val (.int (2 : Int32)), .val (.int (3 : Int32)), .val (.int ((p0 &&& (2147483647 : Int32)) % (2 : Int32))), .val (.int ((p1 &&& (2147483647 : Int32)) % (2 : Int32))), .val (.int ((p2 &&& (2147483647 : Int32)) % (3 : Int32))), .val (.ref b714), .val (.ref b789), .val (.int (1 : Int32)), .val (.int (own_b (¬ ((p1 &&& (2147483647 : Int32)) % (2 : Int32)) = ((p0 &&& (2147483647 : Int32)) % (2 : Int32))))), .val (.int (1 : Int32)), .val (.int (0 : Int32)), .val (.int (1 : Int32)), .val (.int (0 : Int32)), .val (.int (1 : Int32))] [])) _
        refine XS.iload X921.here hx rfl (hb hby at_277) rfl ?_
        show Steps p.tables e below (T921.setTop (mkF m 279 #[.val (.int p0), .val (.int p1), .val (.int p2), .val (.int p3), .val (.int (1 : Int32)), .val (.int (1 : Int32)), .val (.int (1 : Int32)), .val (.int (0 : Int32)), .val (.int (2 : Int32)), .val (.int (3 : Int32)), .val (.int ((p0 &&& (2147483647 : Int32)) % (2 : Int32))), .val (.int ((p1 &&& (2147483647 : Int32)) % (2 : Int32))), .val (.int ((p2 &&& (2147483647 : Int32)) % (3 : Int32))), .val (.ref b714), .val (.ref b789), .val (.int (1 : Int32)), .val (.int (own_b (¬ ((p1 &&& (2147483647 : Int32)) % (2 : Int32)) = ((p0 &&& (2147483647 : Int32)) % (2 : Int32))))), .val (.int (1 : Int32)), .val (.int (0 : Int32)), .val (.int (1 : Int32)), .val (.int (0 : Int32)), .val (.int (1 : Int32))] [(.int (1 : Int32))])) _
        refine XS.ifNo X921.here hx rfl (hb hby at_279) rfl (by decide) ?_
        show Steps p.tables e below (T921.setTop (mkF m 282 #[.val (.int p0), .val (.int p1), .val (.int p2), .val (.int p3), .val (.int (1 : Int32)), .val (.int (1 : Int32)), .val (.int (1 : Int32)), .val (.int (0 : Int32)), .val (.int (2 : Int32)), .val (.int (3 : Int32)), .val (.int ((p0 &&& (2147483647 : Int32)) % (2 : Int32))), .val (.int ((p1 &&& (2147483647 : Int32)) % (2 : Int32))), .val (.int ((p2 &&& (2147483647 : Int32)) % (3 : Int32))), .val (.ref b714), .val (.ref b789), .val (.int (1 : Int32)), .val (.int (own_b (¬ ((p1 &&& (2147483647 : Int32)) % (2 : Int32)) = ((p0 &&& (2147483647 : Int32)) % (2 : Int32))))), .val (.int (1 : Int32)), .val (.int (0 : Int32)), .val (.int (1 : Int32)), .val (.int (0 : Int32)), .val (.int (1 : Int32))] [])) _
        refine XS.iconst X921.here hx rfl (hb hby at_282) ?_
        show Steps p.tables e below (T921.setTop (mkF m 283 #[.val (.int p0), .val (.int p1), .val (.int p2), .val (.int p3), .val (.int (1 : Int32)), .val (.int (1 : Int32)), .val (.int (1 : Int32)), .val (.int (0 : Int32)), .val (.int (2 : Int32)), .val (.int (3 : Int32)), .val (.int ((p0 &&& (2147483647 : Int32)) % (2 : Int32))), .val (.int ((p1 &&& (2147483647 : Int32)) % (2 : Int32))), .val (.int ((p2 &&& (2147483647 : Int32)) % (3 : Int32))), .val (.ref b714), .val (.ref b789), .val (.int (1 : Int32)), .val (.int (own_b (¬ ((p1 &&& (2147483647 : Int32)) % (2 : Int32)) = ((p0 &&& (2147483647 : Int32)) % (2 : Int32))))), .val (.int (1 : Int32)), .val (.int (0 : Int32)), .val (.int (1 : Int32)), .val (.int (0 : Int32)), .val (.int (1 : Int32))] [(.int (1 : Int32))])) _
        refine XS.goto X921.here hx rfl (pc0 := 283) (pc' := 287) rfl (hb hby at_283) (by decide) (by decide) ?_
        show Steps p.tables e below (T921.setTop (mkF m 287 #[.val (.int p0), .val (.int p1), .val (.int p2), .val (.int p3), .val (.int (1 : Int32)), .val (.int (1 : Int32)), .val (.int (1 : Int32)), .val (.int (0 : Int32)), .val (.int (2 : Int32)), .val (.int (3 : Int32)), .val (.int ((p0 &&& (2147483647 : Int32)) % (2 : Int32))), .val (.int ((p1 &&& (2147483647 : Int32)) % (2 : Int32))), .val (.int ((p2 &&& (2147483647 : Int32)) % (3 : Int32))), .val (.ref b714), .val (.ref b789), .val (.int (1 : Int32)), .val (.int (own_b (¬ ((p1 &&& (2147483647 : Int32)) % (2 : Int32)) = ((p0 &&& (2147483647 : Int32)) % (2 : Int32))))), .val (.int (1 : Int32)), .val (.int (0 : Int32)), .val (.int (1 : Int32)), .val (.int (0 : Int32)), .val (.int (1 : Int32))] [(.int (1 : Int32))])) _
        refine XS.istore X921.here hx rfl (hb hby at_287) rfl (l' := #[.val (.int p0), .val (.int p1), .val (.int p2), .val (.int p3), .val (.int (1 : Int32)), .val (.int (1 : Int32)), .val (.int (1 : Int32)), .val (.int (0 : Int32)), .val (.int (2 : Int32)), .val (.int (3 : Int32)), .val (.int ((p0 &&& (2147483647 : Int32)) % (2 : Int32))), .val (.int ((p1 &&& (2147483647 : Int32)) % (2 : Int32))), .val (.int ((p2 &&& (2147483647 : Int32)) % (3 : Int32))), .val (.ref b714), .val (.ref b789), .val (.int (1 : Int32)), .val (.int (own_b (¬ ((p1 &&& (2147483647 : Int32)) % (2 : Int32)) = ((p0 &&& (2147483647 : Int32)) % (2 : Int32))))), .val (.int (1 : Int32)), .val (.int (0 : Int32)), .val (.int (1 : Int32)), .val (.int (0 : Int32)), .val (.int (1 : Int32))]) rfl ?_
        show Steps p.tables e below (T921.setTop (mkF m 289 #[.val (.int p0), .val (.int p1), .val (.int p2), .val (.int p3), .val (.int (1 : Int32)), .val (.int (1 : Int32)), .val (.int (1 : Int32)), .val (.int (0 : Int32)), .val (.int (2 : Int32)), .val (.int (3 : Int32)), .val (.int ((p0 &&& (2147483647 : Int32)) % (2 : Int32))), .val (.int ((p1 &&& (2147483647 : Int32)) % (2 : Int32))), .val (.int ((p2 &&& (2147483647 : Int32)) % (3 : Int32))), .val (.ref b714), .val (.ref b789), .val (.int (1 : Int32)), .val (.int (own_b (¬ ((p1 &&& (2147483647 : Int32)) % (2 : Int32)) = ((p0 &&& (2147483647 : Int32)) % (2 : Int32))))), .val (.int (1 : Int32)), .val (.int (0 : Int32)), .val (.int (1 : Int32)), .val (.int (0 : Int32)), .val (.int (1 : Int32))] [])) _
        refine XS.iload X921.here hx rfl (hb hby at_289) rfl ?_
        show Steps p.tables e below (T921.setTop (mkF m 291 #[.val (.int p0), .val (.int p1), .val (.int p2), .val (.int p3), .val (.int (1 : Int32)), .val (.int (1 : Int32)), .val (.int (1 : Int32)), .val (.int (0 : Int32)), .val (.int (2 : Int32)), .val (.int (3 : Int32)), .val (.int ((p0 &&& (2147483647 : Int32)) % (2 : Int32))), .val (.int ((p1 &&& (2147483647 : Int32)) % (2 : Int32))), .val (.int ((p2 &&& (2147483647 : Int32)) % (3 : Int32))), .val (.ref b714), .val (.ref b789), .val (.int (1 : Int32)), .val (.int (own_b (¬ ((p1 &&& (2147483647 : Int32)) % (2 : Int32)) = ((p0 &&& (2147483647 : Int32)) % (2 : Int32))))), .val (.int (1 : Int32)), .val (.int (0 : Int32)), .val (.int (1 : Int32)), .val (.int (0 : Int32)), .val (.int (1 : Int32))] [(.int (1 : Int32))])) _
        refine XS.ifNo X921.here hx rfl (hb hby at_291) rfl (by decide) ?_
        show Steps p.tables e below (T921.setTop (mkF m 294 #[.val (.int p0), .val (.int p1), .val (.int p2), .val (.int p3), .val (.int (1 : Int32)), .val (.int (1 : Int32)), .val (.int (1 : Int32)), .val (.int (0 : Int32)), .val (.int (2 : Int32)), .val (.int (3 : Int32)), .val (.int ((p0 &&& (2147483647 : Int32)) % (2 : Int32))), .val (.int ((p1 &&& (2147483647 : Int32)) % (2 : Int32))), .val (.int ((p2 &&& (2147483647 : Int32)) % (3 : Int32))), .val (.ref b714), .val (.ref b789), .val (.int (1 : Int32)), .val (.int (own_b (¬ ((p1 &&& (2147483647 : Int32)) % (2 : Int32)) = ((p0 &&& (2147483647 : Int32)) % (2 : Int32))))), .val (.int (1 : Int32)), .val (.int (0 : Int32)), .val (.int (1 : Int32)), .val (.int (0 : Int32)), .val (.int (1 : Int32))] [])) _
        refine XS.iload X921.here hx rfl (hb hby at_294) rfl ?_
        show Steps p.tables e below (T921.setTop (mkF m 296 #[.val (.int p0), .val (.int p1), .val (.int p2), .val (.int p3), .val (.int (1 : Int32)), .val (.int (1 : Int32)), .val (.int (1 : Int32)), .val (.int (0 : Int32)), .val (.int (2 : Int32)), .val (.int (3 : Int32)), .val (.int ((p0 &&& (2147483647 : Int32)) % (2 : Int32))), .val (.int ((p1 &&& (2147483647 : Int32)) % (2 : Int32))), .val (.int ((p2 &&& (2147483647 : Int32)) % (3 : Int32))), .val (.ref b714), .val (.ref b789), .val (.int (1 : Int32)), .val (.int (own_b (¬ ((p1 &&& (2147483647 : Int32)) % (2 : Int32)) = ((p0 &&& (2147483647 : Int32)) % (2 : Int32))))), .val (.int (1 : Int32)), .val (.int (0 : Int32)), .val (.int (1 : Int32)), .val (.int (0 : Int32)), .val (.int (1 : Int32))] [(.int (0 : Int32))])) _
        refine XS.ifNo X921.here hx rfl (hb hby at_296) rfl (by decide) ?_
        show Steps p.tables e below (T921.setTop (mkF m 299 #[.val (.int p0), .val (.int p1), .val (.int p2), .val (.int p3), .val (.int (1 : Int32)), .val (.int (1 : Int32)), .val (.int (1 : Int32)), .val (.int (0 : Int32)), .val (.int (2 : Int32)), .val (.int (3 : Int32)), .val (.int ((p0 &&& (2147483647 : Int32)) % (2 : Int32))), .val (.int ((p1 &&& (2147483647 : Int32)) % (2 : Int32))), .val (.int ((p2 &&& (2147483647 : Int32)) % (3 : Int32))), .val (.ref b714), .val (.ref b789), .val (.int (1 : Int32)), .val (.int (own_b (¬ ((p1 &&& (2147483647 : Int32)) % (2 : Int32)) = ((p0 &&& (2147483647 : Int32)) % (2 : Int32))))), .val (.int (1 : Int32)), .val (.int (0 : Int32)), .val (.int (1 : Int32)), .val (.int (0 : Int32)), .val (.int (1 : Int32))] [])) _
        refine XS.iconst X921.here hx rfl (hb hby at_299) ?_
        show Steps p.tables e below (T921.setTop (mkF m 300 #[.val (.int p0), .val (.int p1), .val (.int p2), .val (.int p3), .val (.int (1 : Int32)), .val (.int (1 : Int32)), .val (.int (1 : Int32)), .val (.int (0 : Int32)), .val (.int (2 : Int32)), .val (.int (3 : Int32)), .val (.int ((p0 &&& (2147483647 : Int32)) % (2 : Int32))), .val (.int ((p1 &&& (2147483647 : Int32)) % (2 : Int32))), .val (.int ((p2 &&& (2147483647 : Int32)) % (3 : Int32))), .val (.ref b714), .val (.ref b789), .val (.int (1 : Int32)), .val (.int (own_b (¬ ((p1 &&& (2147483647 : Int32)) % (2 : Int32)) = ((p0 &&& (2147483647 : Int32)) % (2 : Int32))))), .val (.int (1 : Int32)), .val (.int (0 : Int32)), .val (.int (1 : Int32)), .val (.int (0 : Int32)), .val (.int (1 : Int32))] [(.int (1 : Int32))])) _
        refine XS.goto X921.here hx rfl (pc0 := 300) (pc' := 304) rfl (hb hby at_300) (by decide) (by decide) ?_
        show Steps p.tables e below (T921.setTop (mkF m 304 #[.val (.int p0), .val (.int p1), .val (.int p2), .val (.int p3), .val (.int (1 : Int32)), .val (.int (1 : Int32)), .val (.int (1 : Int32)), .val (.int (0 : Int32)), .val (.int (2 : Int32)), .val (.int (3 : Int32)), .val (.int ((p0 &&& (2147483647 : Int32)) % (2 : Int32))), .val (.int ((p1 &&& (2147483647 : Int32)) % (2 : Int32))), .val (.int ((p2 &&& (2147483647 : Int32)) % (3 : Int32))), .val (.ref b714), .val (.ref b789), .val (.int (1 : Int32)), .val (.int (own_b (¬ ((p1 &&& (2147483647 : Int32)) % (2 : Int32)) = ((p0 &&& (2147483647 : Int32)) % (2 : Int32))))), .val (.int (1 : Int32)), .val (.int (0 : Int32)), .val (.int (1 : Int32)), .val (.int (0 : Int32)), .val (.int (1 : Int32))] [(.int (1 : Int32))])) _
        refine XS.istore X921.here hx rfl (hb hby at_304) rfl (l' := #[.val (.int p0), .val (.int p1), .val (.int p2), .val (.int p3), .val (.int (1 : Int32)), .val (.int (1 : Int32)), .val (.int (1 : Int32)), .val (.int (0 : Int32)), .val (.int (2 : Int32)), .val (.int (3 : Int32)), .val (.int ((p0 &&& (2147483647 : Int32)) % (2 : Int32))), .val (.int ((p1 &&& (2147483647 : Int32)) % (2 : Int32))), .val (.int ((p2 &&& (2147483647 : Int32)) % (3 : Int32))), .val (.ref b714), .val (.ref b789), .val (.int (1 : Int32)), .val (.int (own_b (¬ ((p1 &&& (2147483647 : Int32)) % (2 : Int32)) = ((p0 &&& (2147483647 : Int32)) % (2 : Int32))))), .val (.int (1 : Int32)), .val (.int (0 : Int32)), .val (.int (1 : Int32)), .val (.int (0 : Int32)), .val (.int (1 : Int32))]) rfl ?_
        show Steps p.tables e below (T921.setTop (mkF m 306 #[.val (.int p0), .val (.int p1), .val (.int p2), .val (.int p3), .val (.int (1 : Int32)), .val (.int (1 : Int32)), .val (.int (1 : Int32)), .val (.int (0 : Int32)), .val (.int (2 : Int32)), .val (.int (3 : Int32)), .val (.int ((p0 &&& (2147483647 : Int32)) % (2 : Int32))), .val (.int ((p1 &&& (2147483647 : Int32)) % (2 : Int32))), .val (.int ((p2 &&& (2147483647 : Int32)) % (3 : Int32))), .val (.ref b714), .val (.ref b789), .val (.int (1 : Int32)), .val (.int (own_b (¬ ((p1 &&& (2147483647 : Int32)) % (2 : Int32)) = ((p0 &&& (2147483647 : Int32)) % (2 : Int32))))), .val (.int (1 : Int32)), .val (.int (0 : Int32)), .val (.int (1 : Int32)), .val (.int (0 : Int32)), .val (.int (1 : Int32))] [])) _
        refine XS.iload X921.here hx rfl (hb hby at_306) rfl ?_
        show Steps p.tables e below (T921.setTop (mkF m 308 #[.val (.int p0), .val (.int p1), .val (.int p2), .val (.int p3), .val (.int (1 : Int32)), .val (.int (1 : Int32)), .val (.int (1 : Int32)), .val (.int (0 : Int32)), .val (.int (2 : Int32)), .val (.int (3 : Int32)), .val (.int ((p0 &&& (2147483647 : Int32)) % (2 : Int32))), .val (.int ((p1 &&& (2147483647 : Int32)) % (2 : Int32))), .val (.int ((p2 &&& (2147483647 : Int32)) % (3 : Int32))), .val (.ref b714), .val (.ref b789), .val (.int (1 : Int32)), .val (.int (own_b (¬ ((p1 &&& (2147483647 : Int32)) % (2 : Int32)) = ((p0 &&& (2147483647 : Int32)) % (2 : Int32))))), .val (.int (1 : Int32)), .val (.int (0 : Int32)), .val (.int (1 : Int32)), .val (.int (0 : Int32)), .val (.int (1 : Int32))] [(.int (1 : Int32))])) _
        refine XS.ifNo X921.here hx rfl (hb hby at_308) rfl (by decide) ?_
        show Steps p.tables e below (T921.setTop (mkF m 311 #[.val (.int p0), .val (.int p1), .val (.int p2), .val (.int p3), .val (.int (1 : Int32)), .val (.int (1 : Int32)), .val (.int (1 : Int32)), .val (.int (0 : Int32)), .val (.int (2 : Int32)), .val (.int (3 : Int32)), .val (.int ((p0 &&& (2147483647 : Int32)) % (2 : Int32))), .val (.int ((p1 &&& (2147483647 : Int32)) % (2 : Int32))), .val (.int ((p2 &&& (2147483647 : Int32)) % (3 : Int32))), .val (.ref b714), .val (.ref b789), .val (.int (1 : Int32)), .val (.int (own_b (¬ ((p1 &&& (2147483647 : Int32)) % (2 : Int32)) = ((p0 &&& (2147483647 : Int32)) % (2 : Int32))))), .val (.int (1 : Int32)), .val (.int (0 : Int32)), .val (.int (1 : Int32)), .val (.int (0 : Int32)), .val (.int (1 : Int32))] [])) _
        refine XS.iload X921.here hx rfl (hb hby at_311) rfl ?_
        show Steps p.tables e below (T921.setTop (mkF m 313 #[.val (.int p0), .val (.int p1), .val (.int p2), .val (.int p3), .val (.int (1 : Int32)), .val (.int (1 : Int32)), .val (.int (1 : Int32)), .val (.int (0 : Int32)), .val (.int (2 : Int32)), .val (.int (3 : Int32)), .val (.int ((p0 &&& (2147483647 : Int32)) % (2 : Int32))), .val (.int ((p1 &&& (2147483647 : Int32)) % (2 : Int32))), .val (.int ((p2 &&& (2147483647 : Int32)) % (3 : Int32))), .val (.ref b714), .val (.ref b789), .val (.int (1 : Int32)), .val (.int (own_b (¬ ((p1 &&& (2147483647 : Int32)) % (2 : Int32)) = ((p0 &&& (2147483647 : Int32)) % (2 : Int32))))), .val (.int (1 : Int32)), .val (.int (0 : Int32)), .val (.int (1 : Int32)), .val (.int (0 : Int32)), .val (.int (1 : Int32))] [(.int (1 : Int32))])) _
        refine XS.iload X921.here hx rfl (hb hby at_313) rfl ?_
        show Steps p.tables e below (T921.setTop (mkF m 315 #[.val (.int p0), .val (.int p1), .val (.int p2), .val (.int p3), .val (.int (1 : Int32)), .val (.int (1 : Int32)), .val (.int (1 : Int32)), .val (.int (0 : Int32)), .val (.int (2 : Int32)), .val (.int (3 : Int32)), .val (.int ((p0 &&& (2147483647 : Int32)) % (2 : Int32))), .val (.int ((p1 &&& (2147483647 : Int32)) % (2 : Int32))), .val (.int ((p2 &&& (2147483647 : Int32)) % (3 : Int32))), .val (.ref b714), .val (.ref b789), .val (.int (1 : Int32)), .val (.int (own_b (¬ ((p1 &&& (2147483647 : Int32)) % (2 : Int32)) = ((p0 &&& (2147483647 : Int32)) % (2 : Int32))))), .val (.int (1 : Int32)), .val (.int (0 : Int32)), .val (.int (1 : Int32)), .val (.int (0 : Int32)), .val (.int (1 : Int32))] [(.int (1 : Int32)), (.int (1 : Int32))])) _
        refine XS.icmpNo X921.here hx rfl (hb hby at_315) rfl (by decide) ?_
        show Steps p.tables e below (T921.setTop (mkF m 318 #[.val (.int p0), .val (.int p1), .val (.int p2), .val (.int p3), .val (.int (1 : Int32)), .val (.int (1 : Int32)), .val (.int (1 : Int32)), .val (.int (0 : Int32)), .val (.int (2 : Int32)), .val (.int (3 : Int32)), .val (.int ((p0 &&& (2147483647 : Int32)) % (2 : Int32))), .val (.int ((p1 &&& (2147483647 : Int32)) % (2 : Int32))), .val (.int ((p2 &&& (2147483647 : Int32)) % (3 : Int32))), .val (.ref b714), .val (.ref b789), .val (.int (1 : Int32)), .val (.int (own_b (¬ ((p1 &&& (2147483647 : Int32)) % (2 : Int32)) = ((p0 &&& (2147483647 : Int32)) % (2 : Int32))))), .val (.int (1 : Int32)), .val (.int (0 : Int32)), .val (.int (1 : Int32)), .val (.int (0 : Int32)), .val (.int (1 : Int32))] [])) _
        refine XS.iconst X921.here hx rfl (hb hby at_318) ?_
        show Steps p.tables e below (T921.setTop (mkF m 319 #[.val (.int p0), .val (.int p1), .val (.int p2), .val (.int p3), .val (.int (1 : Int32)), .val (.int (1 : Int32)), .val (.int (1 : Int32)), .val (.int (0 : Int32)), .val (.int (2 : Int32)), .val (.int (3 : Int32)), .val (.int ((p0 &&& (2147483647 : Int32)) % (2 : Int32))), .val (.int ((p1 &&& (2147483647 : Int32)) % (2 : Int32))), .val (.int ((p2 &&& (2147483647 : Int32)) % (3 : Int32))), .val (.ref b714), .val (.ref b789), .val (.int (1 : Int32)), .val (.int (own_b (¬ ((p1 &&& (2147483647 : Int32)) % (2 : Int32)) = ((p0 &&& (2147483647 : Int32)) % (2 : Int32))))), .val (.int (1 : Int32)), .val (.int (0 : Int32)), .val (.int (1 : Int32)), .val (.int (0 : Int32)), .val (.int (1 : Int32))] [(.int (1 : Int32))])) _
        refine XS.goto X921.here hx rfl (pc0 := 319) (pc' := 323) rfl (hb hby at_319) (by decide) (by decide) ?_
        show Steps p.tables e below (T921.setTop (mkF m 323 #[.val (.int p0), .val (.int p1), .val (.int p2), .val (.int p3), .val (.int (1 : Int32)), .val (.int (1 : Int32)), .val (.int (1 : Int32)), .val (.int (0 : Int32)), .val (.int (2 : Int32)), .val (.int (3 : Int32)), .val (.int ((p0 &&& (2147483647 : Int32)) % (2 : Int32))), .val (.int ((p1 &&& (2147483647 : Int32)) % (2 : Int32))), .val (.int ((p2 &&& (2147483647 : Int32)) % (3 : Int32))), .val (.ref b714), .val (.ref b789), .val (.int (1 : Int32)), .val (.int (own_b (¬ ((p1 &&& (2147483647 : Int32)) % (2 : Int32)) = ((p0 &&& (2147483647 : Int32)) % (2 : Int32))))), .val (.int (1 : Int32)), .val (.int (0 : Int32)), .val (.int (1 : Int32)), .val (.int (0 : Int32)), .val (.int (1 : Int32))] [(.int (1 : Int32))])) _
        refine XS.istore X921.here hx rfl (hb hby at_323) rfl (l' := #[.val (.int p0), .val (.int p1), .val (.int p2), .val (.int p3), .val (.int (1 : Int32)), .val (.int (1 : Int32)), .val (.int (1 : Int32)), .val (.int (0 : Int32)), .val (.int (2 : Int32)), .val (.int (3 : Int32)), .val (.int ((p0 &&& (2147483647 : Int32)) % (2 : Int32))), .val (.int ((p1 &&& (2147483647 : Int32)) % (2 : Int32))), .val (.int ((p2 &&& (2147483647 : Int32)) % (3 : Int32))), .val (.ref b714), .val (.ref b789), .val (.int (1 : Int32)), .val (.int (own_b (¬ ((p1 &&& (2147483647 : Int32)) % (2 : Int32)) = ((p0 &&& (2147483647 : Int32)) % (2 : Int32))))), .val (.int (1 : Int32)), .val (.int (0 : Int32)), .val (.int (1 : Int32)), .val (.int (0 : Int32)), .val (.int (1 : Int32))]) rfl ?_
        show Steps p.tables e below (T921.setTop (mkF m 325 #[.val (.int p0), .val (.int p1), .val (.int p2), .val (.int p3), .val (.int (1 : Int32)), .val (.int (1 : Int32)), .val (.int (1 : Int32)), .val (.int (0 : Int32)), .val (.int (2 : Int32)), .val (.int (3 : Int32)), .val (.int ((p0 &&& (2147483647 : Int32)) % (2 : Int32))), .val (.int ((p1 &&& (2147483647 : Int32)) % (2 : Int32))), .val (.int ((p2 &&& (2147483647 : Int32)) % (3 : Int32))), .val (.ref b714), .val (.ref b789), .val (.int (1 : Int32)), .val (.int (own_b (¬ ((p1 &&& (2147483647 : Int32)) % (2 : Int32)) = ((p0 &&& (2147483647 : Int32)) % (2 : Int32))))), .val (.int (1 : Int32)), .val (.int (0 : Int32)), .val (.int (1 : Int32)), .val (.int (0 : Int32)), .val (.int (1 : Int32))] [])) _
        refine XS.iload X921.here hx rfl (hb hby at_325) rfl ?_
        show Steps p.tables e below (T921.setTop (mkF m 327 #[.val (.int p0), .val (.int p1), .val (.int p2), .val (.int p3), .val (.int (1 : Int32)), .val (.int (1 : Int32)), .val (.int (1 : Int32)), .val (.int (0 : Int32)), .val (.int (2 : Int32)), .val (.int (3 : Int32)), .val (.int ((p0 &&& (2147483647 : Int32)) % (2 : Int32))), .val (.int ((p1 &&& (2147483647 : Int32)) % (2 : Int32))), .val (.int ((p2 &&& (2147483647 : Int32)) % (3 : Int32))), .val (.ref b714), .val (.ref b789), .val (.int (1 : Int32)), .val (.int (own_b (¬ ((p1 &&& (2147483647 : Int32)) % (2 : Int32)) = ((p0 &&& (2147483647 : Int32)) % (2 : Int32))))), .val (.int (1 : Int32)), .val (.int (0 : Int32)), .val (.int (1 : Int32)), .val (.int (0 : Int32)), .val (.int (1 : Int32))] [(.int (1 : Int32))])) _
        refine XS.ifNo X921.here hx rfl (hb hby at_327) rfl (by decide) ?_
        show Steps p.tables e below (T921.setTop (mkF m 330 #[.val (.int p0), .val (.int p1), .val (.int p2), .val (.int p3), .val (.int (1 : Int32)), .val (.int (1 : Int32)), .val (.int (1 : Int32)), .val (.int (0 : Int32)), .val (.int (2 : Int32)), .val (.int (3 : Int32)), .val (.int ((p0 &&& (2147483647 : Int32)) % (2 : Int32))), .val (.int ((p1 &&& (2147483647 : Int32)) % (2 : Int32))), .val (.int ((p2 &&& (2147483647 : Int32)) % (3 : Int32))), .val (.ref b714), .val (.ref b789), .val (.int (1 : Int32)), .val (.int (own_b (¬ ((p1 &&& (2147483647 : Int32)) % (2 : Int32)) = ((p0 &&& (2147483647 : Int32)) % (2 : Int32))))), .val (.int (1 : Int32)), .val (.int (0 : Int32)), .val (.int (1 : Int32)), .val (.int (0 : Int32)), .val (.int (1 : Int32))] [])) _
        refine XS.iload X921.here hx rfl (hb hby at_330) rfl ?_
        show Steps p.tables e below (T921.setTop (mkF m 332 #[.val (.int p0), .val (.int p1), .val (.int p2), .val (.int p3), .val (.int (1 : Int32)), .val (.int (1 : Int32)), .val (.int (1 : Int32)), .val (.int (0 : Int32)), .val (.int (2 : Int32)), .val (.int (3 : Int32)), .val (.int ((p0 &&& (2147483647 : Int32)) % (2 : Int32))), .val (.int ((p1 &&& (2147483647 : Int32)) % (2 : Int32))), .val (.int ((p2 &&& (2147483647 : Int32)) % (3 : Int32))), .val (.ref b714), .val (.ref b789), .val (.int (1 : Int32)), .val (.int (own_b (¬ ((p1 &&& (2147483647 : Int32)) % (2 : Int32)) = ((p0 &&& (2147483647 : Int32)) % (2 : Int32))))), .val (.int (1 : Int32)), .val (.int (0 : Int32)), .val (.int (1 : Int32)), .val (.int (0 : Int32)), .val (.int (1 : Int32))] [(.int (0 : Int32))])) _
        refine XS.iload X921.here hx rfl (hb hby at_332) rfl ?_
        show Steps p.tables e below (T921.setTop (mkF m 334 #[.val (.int p0), .val (.int p1), .val (.int p2), .val (.int p3), .val (.int (1 : Int32)), .val (.int (1 : Int32)), .val (.int (1 : Int32)), .val (.int (0 : Int32)), .val (.int (2 : Int32)), .val (.int (3 : Int32)), .val (.int ((p0 &&& (2147483647 : Int32)) % (2 : Int32))), .val (.int ((p1 &&& (2147483647 : Int32)) % (2 : Int32))), .val (.int ((p2 &&& (2147483647 : Int32)) % (3 : Int32))), .val (.ref b714), .val (.ref b789), .val (.int (1 : Int32)), .val (.int (own_b (¬ ((p1 &&& (2147483647 : Int32)) % (2 : Int32)) = ((p0 &&& (2147483647 : Int32)) % (2 : Int32))))), .val (.int (1 : Int32)), .val (.int (0 : Int32)), .val (.int (1 : Int32)), .val (.int (0 : Int32)), .val (.int (1 : Int32))] [(.int (1 : Int32)), (.int (0 : Int32))])) _
        refine XS.ifYes X921.here hx rfl (pc0 := 334) (pc' := 341) rfl (hb hby at_334) rfl (by decide) (by decide) (by decide) ?_
        show Steps p.tables e below (T921.setTop (mkF m 341 #[.val (.int p0), .val (.int p1), .val (.int p2), .val (.int p3), .val (.int (1 : Int32)), .val (.int (1 : Int32)), .val (.int (1 : Int32)), .val (.int (0 : Int32)), .val (.int (2 : Int32)), .val (.int (3 : Int32)), .val (.int ((p0 &&& (2147483647 : Int32)) % (2 : Int32))), .val (.int ((p1 &&& (2147483647 : Int32)) % (2 : Int32))), .val (.int ((p2 &&& (2147483647 : Int32)) % (3 : Int32))), .val (.ref b714), .val (.ref b789), .val (.int (1 : Int32)), .val (.int (own_b (¬ ((p1 &&& (2147483647 : Int32)) % (2 : Int32)) = ((p0 &&& (2147483647 : Int32)) % (2 : Int32))))), .val (.int (1 : Int32)), .val (.int (0 : Int32)), .val (.int (1 : Int32)), .val (.int (0 : Int32)), .val (.int (1 : Int32))] [(.int (0 : Int32))])) _
        refine XS.iconst X921.here hx rfl (hb hby at_341) ?_
        show Steps p.tables e below (T921.setTop (mkF m 342 #[.val (.int p0), .val (.int p1), .val (.int p2), .val (.int p3), .val (.int (1 : Int32)), .val (.int (1 : Int32)), .val (.int (1 : Int32)), .val (.int (0 : Int32)), .val (.int (2 : Int32)), .val (.int (3 : Int32)), .val (.int ((p0 &&& (2147483647 : Int32)) % (2 : Int32))), .val (.int ((p1 &&& (2147483647 : Int32)) % (2 : Int32))), .val (.int ((p2 &&& (2147483647 : Int32)) % (3 : Int32))), .val (.ref b714), .val (.ref b789), .val (.int (1 : Int32)), .val (.int (own_b (¬ ((p1 &&& (2147483647 : Int32)) % (2 : Int32)) = ((p0 &&& (2147483647 : Int32)) % (2 : Int32))))), .val (.int (1 : Int32)), .val (.int (0 : Int32)), .val (.int (1 : Int32)), .val (.int (0 : Int32)), .val (.int (1 : Int32))] [(.int (0 : Int32)), (.int (0 : Int32))])) _
        refine XS.icmpNo X921.here hx rfl (hb hby at_342) rfl (by decide) ?_
        show Steps p.tables e below (T921.setTop (mkF m 345 #[.val (.int p0), .val (.int p1), .val (.int p2), .val (.int p3), .val (.int (1 : Int32)), .val (.int (1 : Int32)), .val (.int (1 : Int32)), .val (.int (0 : Int32)), .val (.int (2 : Int32)), .val (.int (3 : Int32)), .val (.int ((p0 &&& (2147483647 : Int32)) % (2 : Int32))), .val (.int ((p1 &&& (2147483647 : Int32)) % (2 : Int32))), .val (.int ((p2 &&& (2147483647 : Int32)) % (3 : Int32))), .val (.ref b714), .val (.ref b789), .val (.int (1 : Int32)), .val (.int (own_b (¬ ((p1 &&& (2147483647 : Int32)) % (2 : Int32)) = ((p0 &&& (2147483647 : Int32)) % (2 : Int32))))), .val (.int (1 : Int32)), .val (.int (0 : Int32)), .val (.int (1 : Int32)), .val (.int (0 : Int32)), .val (.int (1 : Int32))] [])) _
        refine XS.iconst X921.here hx rfl (hb hby at_345) ?_
        show Steps p.tables e below (T921.setTop (mkF m 346 #[.val (.int p0), .val (.int p1), .val (.int p2), .val (.int p3), .val (.int (1 : Int32)), .val (.int (1 : Int32)), .val (.int (1 : Int32)), .val (.int (0 : Int32)), .val (.int (2 : Int32)), .val (.int (3 : Int32)), .val (.int ((p0 &&& (2147483647 : Int32)) % (2 : Int32))), .val (.int ((p1 &&& (2147483647 : Int32)) % (2 : Int32))), .val (.int ((p2 &&& (2147483647 : Int32)) % (3 : Int32))), .val (.ref b714), .val (.ref b789), .val (.int (1 : Int32)), .val (.int (own_b (¬ ((p1 &&& (2147483647 : Int32)) % (2 : Int32)) = ((p0 &&& (2147483647 : Int32)) % (2 : Int32))))), .val (.int (1 : Int32)), .val (.int (0 : Int32)), .val (.int (1 : Int32)), .val (.int (0 : Int32)), .val (.int (1 : Int32))] [(.int (1 : Int32))])) _
        refine XS.goto X921.here hx rfl (pc0 := 346) (pc' := 350) rfl (hb hby at_346) (by decide) (by decide) ?_
        show Steps p.tables e below (T921.setTop (mkF m 350 #[.val (.int p0), .val (.int p1), .val (.int p2), .val (.int p3), .val (.int (1 : Int32)), .val (.int (1 : Int32)), .val (.int (1 : Int32)), .val (.int (0 : Int32)), .val (.int (2 : Int32)), .val (.int (3 : Int32)), .val (.int ((p0 &&& (2147483647 : Int32)) % (2 : Int32))), .val (.int ((p1 &&& (2147483647 : Int32)) % (2 : Int32))), .val (.int ((p2 &&& (2147483647 : Int32)) % (3 : Int32))), .val (.ref b714), .val (.ref b789), .val (.int (1 : Int32)), .val (.int (own_b (¬ ((p1 &&& (2147483647 : Int32)) % (2 : Int32)) = ((p0 &&& (2147483647 : Int32)) % (2 : Int32))))), .val (.int (1 : Int32)), .val (.int (0 : Int32)), .val (.int (1 : Int32)), .val (.int (0 : Int32)), .val (.int (1 : Int32))] [(.int (1 : Int32))])) _
        refine XS.istore X921.here hx rfl (hb hby at_350) rfl (l' := #[.val (.int p0), .val (.int p1), .val (.int p2), .val (.int p3), .val (.int (1 : Int32)), .val (.int (1 : Int32)), .val (.int (1 : Int32)), .val (.int (0 : Int32)), .val (.int (2 : Int32)), .val (.int (3 : Int32)), .val (.int ((p0 &&& (2147483647 : Int32)) % (2 : Int32))), .val (.int ((p1 &&& (2147483647 : Int32)) % (2 : Int32))), .val (.int ((p2 &&& (2147483647 : Int32)) % (3 : Int32))), .val (.ref b714), .val (.ref b789), .val (.int (1 : Int32)), .val (.int (own_b (¬ ((p1 &&& (2147483647 : Int32)) % (2 : Int32)) = ((p0 &&& (2147483647 : Int32)) % (2 : Int32))))), .val (.int (1 : Int32)), .val (.int (0 : Int32)), .val (.int (1 : Int32)), .val (.int (0 : Int32)), .val (.int (1 : Int32))]) rfl ?_
        show Steps p.tables e below (T921.setTop (mkF m 352 #[.val (.int p0), .val (.int p1), .val (.int p2), .val (.int p3), .val (.int (1 : Int32)), .val (.int (1 : Int32)), .val (.int (1 : Int32)), .val (.int (0 : Int32)), .val (.int (2 : Int32)), .val (.int (3 : Int32)), .val (.int ((p0 &&& (2147483647 : Int32)) % (2 : Int32))), .val (.int ((p1 &&& (2147483647 : Int32)) % (2 : Int32))), .val (.int ((p2 &&& (2147483647 : Int32)) % (3 : Int32))), .val (.ref b714), .val (.ref b789), .val (.int (1 : Int32)), .val (.int (own_b (¬ ((p1 &&& (2147483647 : Int32)) % (2 : Int32)) = ((p0 &&& (2147483647 : Int32)) % (2 : Int32))))), .val (.int (1 : Int32)), .val (.int (0 : Int32)), .val (.int (1 : Int32)), .val (.int (0 : Int32)), .val (.int (1 : Int32))] [])) _
        refine XS.iload X921.here hx rfl (hb hby at_352) rfl ?_
        show Steps p.tables e below (T921.setTop (mkF m 354 #[.val (.int p0), .val (.int p1), .val (.int p2), .val (.int p3), .val (.int (1 : Int32)), .val (.int (1 : Int32)), .val (.int (1 : Int32)), .val (.int (0 : Int32)), .val (.int (2 : Int32)), .val (.int (3 : Int32)), .val (.int ((p0 &&& (2147483647 : Int32)) % (2 : Int32))), .val (.int ((p1 &&& (2147483647 : Int32)) % (2 : Int32))), .val (.int ((p2 &&& (2147483647 : Int32)) % (3 : Int32))), .val (.ref b714), .val (.ref b789), .val (.int (1 : Int32)), .val (.int (own_b (¬ ((p1 &&& (2147483647 : Int32)) % (2 : Int32)) = ((p0 &&& (2147483647 : Int32)) % (2 : Int32))))), .val (.int (1 : Int32)), .val (.int (0 : Int32)), .val (.int (1 : Int32)), .val (.int (0 : Int32)), .val (.int (1 : Int32))] [(.int (1 : Int32))])) _
        exact kq)
      have f932 := (Nat.le_trans (Nat.le_trans (Nat.le_trans (Nat.le_trans (Nat.le_trans (Nat.le_trans (Nat.le_trans (Nat.le_trans (Nat.le_trans (Nat.le_trans (Nat.le_trans hk761 E765.1) K770.1) K779.1) E789.1) K794.1) K872.1) K877.1) K882.1) K887.1) K911.1) K916.1)
      obtain ⟨fs, hr, hrun, hended, hRW⟩ := X921.leaveW (s := s) (vm₁ := T761.vm) hS (by rw [e921]; exact f932) (v := some (.int (nar .boolean (1 : Int32)))) (fun h => by rw [Bd.returns] at h; cases h)
      refine ⟨_, _, (by rw [← hA0]; exact G931 _ (retN X921 hx (t := .boolean) Bd.returns (by simp) (hb hby at_354) hr)), hrun, hended, _, _, rfl, ?_, hRW.1, hRW.2.1, hRW.2.2.1, hRW.2.2.2.mono (by decide) (by decide)⟩
      exact ⟨rfl, N921⟩
set_option maxRecDepth 65536 in
set_option maxHeartbeats 40000000 in
theorem comes_1 {Post : Tables → Env → Array Value → State → Outcome → State → Prop} (hpost : ∀ tb e args s v u, (limb_1_1.after args s (.returned v) u = true ∧ limb_1_2.after args s (.returned v) u = true ∧ True) → ReturnedEndW s (.returned v) u (Jvm.fieldLocs frame_1_writes args s ++ Jvm.arrayLocs frame_1_arrays args s ++ Jvm.staticLocs frame_1_statics s) 48 2240 → Post tb e args s (.returned v) u) :
    ArmFor flags0 classFile x code maxLocals ret World_1 tables_1 room_1 Calls_1 rest_1 Pre_1 Post := by
  intro l hfl _ _ p e ha hc hk s m args below hf hA hF happ hP
  obtain ⟨hcalls, hrest, hpre⟩ := hP
  obtain ⟨-, -, -, hnamed, -, -, -, hat⟩ := (Spec.applies_iff hf).mp happ
  obtain ⟨hg, hn⟩ := and_e (Cond.before_iff.mp (show (Jvm.Cond.and given_1 narrow_1).before args s = true from hpre))
  obtain ⟨g1, g2⟩ := and_e hg
  obtain ⟨g3, g4⟩ := and_e g2
  obtain ⟨g5, g6⟩ := and_e g4
  obtain ⟨g7, g8⟩ := and_e g6
  obtain ⟨w0, w1, w2, w3, rfl⟩ : ∃ w0 w1 w2 w3 : Value, args = #[w0, w1, w2, w3] := by
    have hs : args.size = 4 := by simpa [Cond.value, given_1] using g1
    obtain ⟨L⟩ := args
    match L, hs with
    | [w0, w1, w2, w3], _ => exact ⟨w0, w1, w2, w3, rfl⟩
  have hw := fun d (hd : d ∈ tables_1) => atoms_spec (ws := Jvm.Cond.code x code maxLocals ret :: tables_1) hat d (List.mem_cons_of_mem _ hd)
  have hfit : Fit s := fun {y c} hc i hi => by
    obtain ⟨ha, rfl⟩ := Array.getElem?_eq_some_iff.mp hc
    have q := List.all_eq_true.mp ((Array.all_eq_true_iff_forall_mem.mp hF) _ (Array.getElem_mem ha)) i (List.mem_range.mpr hi)
    simpa [Array.getElem?_eq_getElem hi] using q
  obtain ⟨hsets, hown0⟩ := atoms_of _ (rest_1_c_eq ▸ (show rest_1_c.before _ s = true from hrest))
  have hr0 := Cond.before_iff.mp hown0
  obtain ⟨i0, ei0⟩ := is_v g3
  obtain rfl : w0 = (.int i0) := Option.some.inj ei0
  obtain ⟨i1, ei1⟩ := is_v g5
  obtain rfl : w1 = (.int i1) := Option.some.inj ei1
  obtain ⟨i2, ei2⟩ := is_v g7
  obtain rfl : w2 = (.int i2) := Option.some.inj ei2
  obtain ⟨i3, ei3⟩ := is_v g8
  obtain rfl : w3 = (.int i3) := Option.some.inj ei3
  have hs2 := Cond.before_iff.mp (hsets _ (List.mem_of_getElem? (i := 6) rfl))
  obtain ⟨da, eda⟩ := arr_v hs2
  obtain ⟨cda, Ada⟩ := Arr.start eda hs2
  have hSd : Sta s s.heap "java/util/ArrayList" "DEFAULTCAPACITY_EMPTY_ELEMENTDATA" "[Ljava/lang/Object;" (.ref da) := Sta.start eda (Or.inr ⟨(hw _ (List.mem_of_getElem? (i := 3) rfl)), (hsets _ (List.mem_of_getElem? (i := 2) rfl))⟩)
  have hl := own_arv Ada eda (own_eqI (Cond.before_iff.mp (hsets _ (List.mem_of_getElem? (i := 8) rfl))))
  have hAd : Arv s s.heap da cda.cls (.object "java/lang/Object") (0 : Int32) [] .null := Arv.start hfit Ada hl.1 hl.2 (by decide) rfl trivial
  obtain ⟨n, o, h1, h2, h3, _, L, rfl, ⟨rfl, N⟩, hq⟩ := rm0 l s _ hw tables_1 i0 i1 i2 i3 da cda.cls s.heap s.heap.size (Nat.le_refl _) (Old.start s) hSd hAd p e ha hc hk s m _ below hf ((Spec.applies_iff_loose hf).mp happ).1 ⟨rfl, State.Warmed39.refl s, rfl⟩ trivial
  refine ⟨n, _, h1, h2, h3, hpost _ _ _ _ _ _ ⟨Cond.after_iff.mpr rfl, Cond.after_iff.mpr (eq_i res_at (Term.int_eval (1)) rfl), trivial⟩ ⟨hq.1, hq.2.1, hq.2.2.1, (hq.2.2.2.sift fun y hy => Or.inr (N y hy)).mono (by decide) (by decide)⟩⟩
theorem main_1_1 : Claimed_1_1 := comes_1 fun _ _ _ _ _ _ h hF => ⟨h.1, hF⟩
theorem main_1_2 : Claimed_1_2 := comes_1 fun _ _ _ _ _ _ h hF => ⟨h.2.1, hF⟩
end Jvm.Pilot.@@N@@
namespace Jvm.Pilot.@@N@@
open Jvm Jvm.ClassFile Sem Op Lib Jvm.Free Jvm.Stand Jvm.Pilot.@@N@@.Jvm.D
/-! MADE BY PROGRAM (witnessworld.py) out of the Statement's table words and the real class files: 27 classes; the members and pool entries that the words name. The judged class is class 1, her method 1. -/
namespace start1
open Jvm.ClassFile
def u (s : String) : CpInfo := .utf8 (stringToUtf16 s)
/-- a pool by its gaps: so many unusable entries, then the entry; so many at the end -/
def gap : Nat → List CpInfo → List CpInfo
  | 0, r => r
  | n + 1, r => .unusable :: gap n r
def poolList (es : List (Nat × CpInfo)) (last : Nat) : List CpInfo := es.foldr (fun e r => gap e.1 (e.2 :: r)) (gap last [])
def pool (es : List (Nat × CpInfo)) (last : Nat) : Array CpInfo := ⟨poolList es last⟩
def fileOf (pool : Array CpInfo) (this : Nat) (attrs : Array Attribute := #[]) (ms : Array MethodInfo := #[]) (fl : Nat := 33) (sup : Nat := 0) (ifs : Array Nat := #[]) (fds : Array FieldInfo := #[]) : ClassFile where
  minorVersion := 0
  majorVersion := 65
  constantPool := pool
  accessFlags := fl
  thisClass := this
  superClass := sup
  interfaces := ifs
  fields := fds
  methods := ms
  attributes := attrs
def plain (name : String) (sup : Option ClassId) : Class where
  name := name
  kind := .ordinary
  loader := none
  accessFlags := 33
  super := sup
  interfaces := #[]
  cf := none
  fields := #[]
  methods := #[]
  instanceTypes := #[]
  staticTypes := #[]
  resolved := #[]
  callSites := []
  init := .initialized
  statics := none
  mirror := none

def pool0 : Array CpInfo := pool [(5, u "<init>"), (0, u "()V"), (1, .class_ 10), (1, u "java/lang/Object")] 113

def k0c0 : Code := { maxStack := 0, maxLocals := 1, code := object_method_1_code, exceptionTable := #[], attributes := #[] }
def k0m0 : Method := { name := "<init>", desc := "()V", sig := { parameters := [], returnType := none }, accessFlags := 1, code := some k0c0 }
/-- java/lang/Object -/
def k0 : Class := { plain "java/lang/Object" none with
  accessFlags := 33
  interfaces := #[]
  cf := some (fileOf pool0 8 #[] #[{ accessFlags := 1, nameIndex := 5, descriptorIndex := 6, attributes := #[] }] 33 0 #[] #[])
  fields := #[]
  methods := #[k0m0]
  instanceTypes := #[]
  staticTypes := #[]
  resolved := Array.replicate 124 none
  statics := none }

def pool1 : Array CpInfo := pool [(2, .class_ 4), (0, .nameAndType 5 6), (0, u "java/lang/Object"), (0, u "<init>"), (0, u "()V"), (0, .integer 2147483647), (0, .class_ 9), (0, u "java/util/ArrayList"), (0, .methodref 8 3), (0, .class_ 12), (0, u "com/example/ludarc/ludarc/engine/Variable"), (0, .string 14), (0, u "x"), (0, .methodref 11 16), (0, .nameAndType 5 17), (0, u "(Lcom/example/ludarc/ludarc/engine/Network$Builder;ILjava/lang/String;[I[D)V"), (0, .methodref 8 19), (0, .nameAndType 20 21), (0, u "add"), (0, u "(Ljava/lang/Object;)Z"), (0, .string 23), (0, u "y"), (0, .class_ 25), (0, u "com/example/ludarc/ludarc/engine/Domains"), (0, .methodref 24 27), (0, .nameAndType 5 28), (0, u "(Ljava/util/List;)V"), (0, .methodref 24 30), (0, .nameAndType 31 32), (0, u "mark"), (0, u "(II)Z"), (0, .methodref 24 34), (0, .nameAndType 35 6), (0, u "clearMarks"), (0, .methodref 24 37), (0, .nameAndType 38 32), (0, u "isMarked"), (0, .class_ 40), (0, u "com/example/ludarc/ludarc/engine/DomainsMarkPinLaw"), (2, u "law"), (0, u "(IIII)Z")] 9

def k1m0 : Method := { name := "<init>", desc := "()V", sig := { parameters := [], returnType := none }, accessFlags := 2, code := none }
def k1c1 : Code := { maxStack := 8, maxLocals := 22, code := code, exceptionTable := #[], attributes := #[] }
def k1m1 : Method := { name := "law", desc := "(IIII)Z", sig := { parameters := [.int, .int, .int, .int], returnType := some .boolean }, accessFlags := 9, code := some k1c1 }
/-- com/example/ludarc/ludarc/engine/DomainsMarkPinLaw -/
def k1 : Class := { plain "com/example/ludarc/ludarc/engine/DomainsMarkPinLaw" (some 0) with
  accessFlags := 49
  interfaces := #[]
  cf := some (fileOf pool1 39 #[] #[{ accessFlags := 2, nameIndex := 5, descriptorIndex := 6, attributes := #[] }, { accessFlags := 9, nameIndex := 43, descriptorIndex := 44, attributes := #[] }] 49 2 #[] #[])
  fields := #[]
  methods := #[k1m0, k1m1]
  instanceTypes := #[]
  staticTypes := #[]
  resolved := Array.replicate 54 none
  statics := none }

def pool2 : Array CpInfo := pool [(8, .class_ 10), (1, u "java/lang/Iterable"), (24, .class_ 36), (0, u "java/lang/Object")] 25

/-- java/lang/Iterable -/
def k2 : Class := { plain "java/lang/Iterable" (some 0) with
  accessFlags := 1537
  interfaces := #[]
  cf := some (fileOf pool2 8 #[] #[] 1537 35 #[] #[])
  fields := #[]
  methods := #[]
  instanceTypes := #[]
  staticTypes := #[]
  resolved := Array.replicate 62 none
  statics := none }

def pool3 : Array CpInfo := pool [(10, .class_ 12), (1, u "java/util/Collection"), (47, .class_ 61), (0, u "java/lang/Object"), (0, .class_ 63), (0, u "java/lang/Iterable")] 51

/-- java/util/Collection -/
def k3 : Class := { plain "java/util/Collection" (some 0) with
  accessFlags := 1537
  interfaces := #[2]
  cf := some (fileOf pool3 10 #[] #[] 1537 60 #[62] #[])
  fields := #[]
  methods := #[]
  instanceTypes := #[]
  staticTypes := #[]
  resolved := Array.replicate 115 none
  statics := none }

def pool4 : Array CpInfo := pool [(1, .methodref 2 3), (0, .class_ 4), (0, .nameAndType 5 6), (0, u "java/lang/Object"), (0, u "<init>"), (0, u "()V"), (1, .class_ 10), (1, u "java/util/AbstractCollection"), (66, .class_ 78), (0, u "java/util/Collection")] 81

def k4c0 : Code := { maxStack := 1, maxLocals := 1, code := jdk_22_method_1_code, exceptionTable := #[], attributes := #[] }
def k4m0 : Method := { name := "<init>", desc := "()V", sig := { parameters := [], returnType := none }, accessFlags := 4, code := some k4c0 }
/-- java/util/AbstractCollection -/
def k4 : Class := { plain "java/util/AbstractCollection" (some 0) with
  accessFlags := 1057
  interfaces := #[3]
  cf := some (fileOf pool4 8 #[] #[{ accessFlags := 4, nameIndex := 5, descriptorIndex := 6, attributes := #[] }] 1057 2 #[77] #[])
  fields := #[]
  methods := #[k4m0]
  instanceTypes := #[]
  staticTypes := #[]
  resolved := Array.replicate 160 none
  statics := none }

def pool5 : Array CpInfo := pool [(8, .class_ 10), (1, u "java/util/SequencedCollection"), (15, .class_ 27), (0, u "java/lang/Object"), (0, .class_ 29), (0, u "java/util/Collection")] 27

/-- java/util/SequencedCollection -/
def k5 : Class := { plain "java/util/SequencedCollection" (some 0) with
  accessFlags := 1537
  interfaces := #[3]
  cf := some (fileOf pool5 8 #[] #[] 1537 26 #[28] #[])
  fields := #[]
  methods := #[]
  instanceTypes := #[]
  staticTypes := #[]
  resolved := Array.replicate 57 none
  statics := none }

def pool6 : Array CpInfo := pool [(8, .class_ 10), (1, u "java/util/List"), (64, u "get"), (0, u "(I)Ljava/lang/Object;"), (2, u "size"), (0, u "()I"), (22, .class_ 104), (0, u "java/lang/Object"), (15, .class_ 121), (0, u "java/util/SequencedCollection")] 129

def k6m0 : Method := { name := "size", desc := "()I", sig := { parameters := [], returnType := some .int }, accessFlags := 1025, code := none }
def k6m1 : Method := { name := "get", desc := "(I)Ljava/lang/Object;", sig := { parameters := [.int], returnType := some (.object "java/lang/Object") }, accessFlags := 1025, code := none }
/-- java/util/List -/
def k6 : Class := { plain "java/util/List" (some 0) with
  accessFlags := 1537
  interfaces := #[5]
  cf := some (fileOf pool6 8 #[] #[{ accessFlags := 1025, nameIndex := 79, descriptorIndex := 80, attributes := #[] }, { accessFlags := 1025, nameIndex := 75, descriptorIndex := 76, attributes := #[] }] 1537 103 #[120] #[])
  fields := #[]
  methods := #[k6m0, k6m1]
  instanceTypes := #[]
  staticTypes := #[]
  resolved := Array.replicate 251 none
  statics := none }

def pool7 : Array CpInfo := pool [(1, .methodref 2 3), (0, .class_ 4), (0, .nameAndType 5 6), (0, u "java/util/AbstractCollection"), (0, u "<init>"), (0, u "()V"), (0, .fieldref 8 9), (0, .class_ 10), (0, .nameAndType 11 12), (0, u "java/util/AbstractList"), (0, u "modCount"), (0, u "I"), (64, .class_ 78), (0, u "java/util/AbstractList$Itr"), (3, .class_ 83), (0, u "java/util/AbstractList$ListItr"), (9, .class_ 94), (0, u "java/util/AbstractList$RandomAccessSubList"), (3, .class_ 99), (0, u "java/util/AbstractList$SubList"), (33, .class_ 134), (0, u "java/util/List"), (73, .class_ 209), (0, u "java/util/AbstractList$SubList$1"), (0, .class_ 211), (0, u "java/util/AbstractList$RandomAccessSpliterator")] 6

def k7c0 : Code := { maxStack := 2, maxLocals := 1, code := jdk_39_method_1_code, exceptionTable := #[], attributes := #[] }
def k7m0 : Method := { name := "<init>", desc := "()V", sig := { parameters := [], returnType := none }, accessFlags := 4, code := some k7c0 }
/-- java/util/AbstractList -/
def k7 : Class := { plain "java/util/AbstractList" (some 4) with
  accessFlags := 1057
  interfaces := #[6]
  cf := some (fileOf pool7 8 #[.nestMembers #[93, 98, 208, 210, 82, 77]] #[{ accessFlags := 4, nameIndex := 5, descriptorIndex := 6, attributes := #[] }] 1057 2 #[133] #[{ accessFlags := 132, nameIndex := 11, descriptorIndex := 12, attributes := #[] }])
  fields := #[{ name := "modCount", type := .int, accessFlags := 132, slot := 0, constantValue := 0 }]
  methods := #[k7m0]
  instanceTypes := #[.int]
  staticTypes := #[]
  resolved := Array.replicate 218 none
  statics := none }

def pool8 : Array CpInfo := pool [(1, .class_ 2), (0, u "java/util/RandomAccess"), (0, .class_ 4), (0, u "java/lang/Object")] 2

/-- java/util/RandomAccess -/
def k8 : Class := { plain "java/util/RandomAccess" (some 0) with
  accessFlags := 1537
  interfaces := #[]
  cf := some (fileOf pool8 1 #[] #[] 1537 3 #[] #[])
  fields := #[]
  methods := #[]
  instanceTypes := #[]
  staticTypes := #[]
  resolved := Array.replicate 7 none
  statics := none }

def pool9 : Array CpInfo := pool [(1, .class_ 2), (0, u "java/lang/Cloneable"), (0, .class_ 4), (0, u "java/lang/Object")] 2

/-- java/lang/Cloneable -/
def k9 : Class := { plain "java/lang/Cloneable" (some 0) with
  accessFlags := 1537
  interfaces := #[]
  cf := some (fileOf pool9 1 #[] #[] 1537 3 #[] #[])
  fields := #[]
  methods := #[]
  instanceTypes := #[]
  staticTypes := #[]
  resolved := Array.replicate 7 none
  statics := none }

def pool10 : Array CpInfo := pool [(1, .class_ 2), (0, u "java/io/Serializable"), (0, .class_ 4), (0, u "java/lang/Object")] 2

/-- java/io/Serializable -/
def k10 : Class := { plain "java/io/Serializable" (some 0) with
  accessFlags := 1537
  interfaces := #[]
  cf := some (fileOf pool10 1 #[] #[] 1537 3 #[] #[])
  fields := #[]
  methods := #[]
  instanceTypes := #[]
  staticTypes := #[]
  resolved := Array.replicate 7 none
  statics := none }

def pool11 : Array CpInfo := pool [(1, .methodref 2 3), (0, .class_ 4), (0, .nameAndType 5 6), (0, u "java/util/AbstractList"), (0, u "<init>"), (0, u "()V"), (0, .class_ 8), (0, u "java/lang/Object"), (0, .fieldref 10 11), (0, .class_ 12), (0, .nameAndType 13 14), (0, u "java/util/ArrayList"), (0, u "elementData"), (0, u "[Ljava/lang/Object;"), (2, u "EMPTY_ELEMENTDATA"), (21, .fieldref 10 40), (0, .nameAndType 41 14), (0, u "DEFAULTCAPACITY_EMPTY_ELEMENTDATA"), (5, u "()[Ljava/lang/Object;"), (0, .fieldref 10 49), (0, .nameAndType 50 51), (0, u "size"), (0, u "I"), (11, .fieldref 10 64), (0, .nameAndType 65 51), (0, u "modCount"), (3, .methodref 10 70), (0, .nameAndType 71 72), (0, u "grow"), (0, u "(I)[Ljava/lang/Object;"), (6, .methodref 80 81), (0, .class_ 82), (0, .nameAndType 83 84), (0, u "java/lang/Math"), (0, u "max"), (0, u "(II)I"), (11, u "(Ljava/lang/Object;)Z"), (21, .methodref 119 120), (0, .class_ 121), (0, .nameAndType 122 84), (0, u "java/util/Objects"), (0, u "checkIndex"), (0, .methodref 10 124), (0, .nameAndType 13 125), (0, u "(I)Ljava/lang/Object;"), (3, .methodref 10 130), (0, .nameAndType 71 47), (0, .methodref 10 132), (0, .nameAndType 133 134), (0, u "add"), (0, u "(Ljava/lang/Object;[Ljava/lang/Object;I)V"), (13, .class_ 149), (0, u "java/util/List"), (36, u "()I"), (75, .class_ 263), (0, u "java/util/ArrayList$ListItr"), (3, .class_ 268), (0, u "java/util/ArrayList$Itr"), (7, .class_ 277), (0, u "java/util/ArrayList$SubList"), (12, .class_ 291), (0, u "java/util/ArrayList$ArrayListSpliterator"), (37, .class_ 330), (0, u "java/util/RandomAccess"), (0, .class_ 332), (0, u "java/lang/Cloneable"), (0, .class_ 334), (0, u "java/io/Serializable"), (0, u "serialVersionUID"), (0, u "J"), (3, u "DEFAULT_CAPACITY"), (40, u "get"), (118, .class_ 501), (0, u "java/util/ArrayList$SubList$2"), (0, .class_ 503), (0, u "java/util/ArrayList$SubList$1")] 5

def k11c0 : Code := { maxStack := 2, maxLocals := 1, code := jdk_38_method_2_code, exceptionTable := #[], attributes := #[] }
def k11m0 : Method := { name := "<init>", desc := "()V", sig := { parameters := [], returnType := none }, accessFlags := 1, code := some k11c0 }
def k11c1 : Code := { maxStack := 4, maxLocals := 4, code := jdk_38_method_6_code, exceptionTable := #[], attributes := #[] }
def k11m1 : Method := { name := "grow", desc := "(I)[Ljava/lang/Object;", sig := { parameters := [.int], returnType := some (.array (.object "java/lang/Object")) }, accessFlags := 2, code := some k11c1 }
def k11c2 : Code := { maxStack := 3, maxLocals := 1, code := jdk_38_method_7_code, exceptionTable := #[], attributes := #[] }
def k11m2 : Method := { name := "grow", desc := "()[Ljava/lang/Object;", sig := { parameters := [], returnType := some (.array (.object "java/lang/Object")) }, accessFlags := 2, code := some k11c2 }
def k11c3 : Code := { maxStack := 1, maxLocals := 1, code := jdk_38_method_8_code, exceptionTable := #[], attributes := #[] }
def k11m3 : Method := { name := "size", desc := "()I", sig := { parameters := [], returnType := some .int }, accessFlags := 1, code := some k11c3 }
def k11c4 : Code := { maxStack := 2, maxLocals := 2, code := jdk_38_method_18_code, exceptionTable := #[], attributes := #[] }
def k11m4 : Method := { name := "elementData", desc := "(I)Ljava/lang/Object;", sig := { parameters := [.int], returnType := some (.object "java/lang/Object") }, accessFlags := 0, code := some k11c4 }
def k11c5 : Code := { maxStack := 2, maxLocals := 2, code := jdk_38_method_20_code, exceptionTable := #[], attributes := #[] }
def k11m5 : Method := { name := "get", desc := "(I)Ljava/lang/Object;", sig := { parameters := [.int], returnType := some (.object "java/lang/Object") }, accessFlags := 1, code := some k11c5 }
def k11c6 : Code := { maxStack := 3, maxLocals := 4, code := jdk_38_method_24_code, exceptionTable := #[], attributes := #[] }
def k11m6 : Method := { name := "add", desc := "(Ljava/lang/Object;[Ljava/lang/Object;I)V", sig := { parameters := [(.object "java/lang/Object"), (.array (.object "java/lang/Object")), .int], returnType := none }, accessFlags := 2, code := some k11c6 }
def k11c7 : Code := { maxStack := 4, maxLocals := 2, code := jdk_38_method_25_code, exceptionTable := #[], attributes := #[] }
def k11m7 : Method := { name := "add", desc := "(Ljava/lang/Object;)Z", sig := { parameters := [(.object "java/lang/Object")], returnType := some .boolean }, accessFlags := 1, code := some k11c7 }
/-- java/util/ArrayList -/
def k11 : Class := { plain "java/util/ArrayList" (some 7) with
  accessFlags := 33
  interfaces := #[6, 8, 9, 10]
  cf := some (fileOf pool11 10 #[.nestMembers #[290, 276, 500, 502, 262, 267]] #[{ accessFlags := 1, nameIndex := 5, descriptorIndex := 6, attributes := #[] }, { accessFlags := 2, nameIndex := 71, descriptorIndex := 72, attributes := #[] }, { accessFlags := 2, nameIndex := 71, descriptorIndex := 47, attributes := #[] }, { accessFlags := 1, nameIndex := 50, descriptorIndex := 186, attributes := #[] }, { accessFlags := 0, nameIndex := 13, descriptorIndex := 125, attributes := #[] }, { accessFlags := 1, nameIndex := 381, descriptorIndex := 125, attributes := #[] }, { accessFlags := 2, nameIndex := 133, descriptorIndex := 134, attributes := #[] }, { accessFlags := 1, nameIndex := 133, descriptorIndex := 96, attributes := #[] }] 33 2 #[148, 329, 331, 333] #[{ accessFlags := 26, nameIndex := 335, descriptorIndex := 336, attributes := #[] }, { accessFlags := 26, nameIndex := 340, descriptorIndex := 51, attributes := #[] }, { accessFlags := 26, nameIndex := 17, descriptorIndex := 14, attributes := #[] }, { accessFlags := 26, nameIndex := 41, descriptorIndex := 14, attributes := #[] }, { accessFlags := 128, nameIndex := 13, descriptorIndex := 14, attributes := #[] }, { accessFlags := 2, nameIndex := 50, descriptorIndex := 51, attributes := #[] }])
  fields := #[{ name := "serialVersionUID", type := .long, accessFlags := 26, slot := 0, constantValue := 0 }, { name := "DEFAULT_CAPACITY", type := .int, accessFlags := 26, slot := 1, constantValue := 0 }, { name := "EMPTY_ELEMENTDATA", type := (.array (.object "java/lang/Object")), accessFlags := 26, slot := 2, constantValue := 0 }, { name := "DEFAULTCAPACITY_EMPTY_ELEMENTDATA", type := (.array (.object "java/lang/Object")), accessFlags := 26, slot := 3, constantValue := 0 }, { name := "elementData", type := (.array (.object "java/lang/Object")), accessFlags := 128, slot := 1, constantValue := 0 }, { name := "size", type := .int, accessFlags := 2, slot := 2, constantValue := 0 }]
  methods := #[k11m0, k11m1, k11m2, k11m3, k11m4, k11m5, k11m6, k11m7]
  instanceTypes := #[.int, (.array (.object "java/lang/Object")), .int]
  staticTypes := #[.long, .int, (.array (.object "java/lang/Object")), (.array (.object "java/lang/Object"))]
  resolved := Array.replicate 509 none
  statics := some 0 }

def pool12 : Array CpInfo := pool [(1, .methodref 2 3), (0, .class_ 4), (0, .nameAndType 5 6), (0, u "java/lang/Object"), (0, u "<init>"), (0, u "()V"), (0, .fieldref 8 9), (0, .class_ 10), (0, .nameAndType 11 12), (0, u "com/example/ludarc/ludarc/engine/Variable"), (0, u "owner"), (0, u "Lcom/example/ludarc/ludarc/engine/Network$Builder;"), (0, .fieldref 8 14), (0, .nameAndType 15 16), (0, u "index"), (0, u "I"), (0, .fieldref 8 18), (0, .nameAndType 19 20), (0, u "name"), (0, u "Ljava/lang/String;"), (0, .fieldref 8 22), (0, .nameAndType 23 24), (0, u "values"), (0, u "[I"), (0, .fieldref 8 26), (0, .nameAndType 27 28), (0, u "probabilities"), (0, u "[D"), (11, u "(Lcom/example/ludarc/ludarc/engine/Network$Builder;ILjava/lang/String;[I[D)V"), (10, u "()I"), (0, u "size")] 13

def k12c0 : Code := { maxStack := 2, maxLocals := 6, code := prog_18_method_1_code, exceptionTable := #[], attributes := #[] }
def k12m0 : Method := { name := "<init>", desc := "(Lcom/example/ludarc/ludarc/engine/Network$Builder;ILjava/lang/String;[I[D)V", sig := { parameters := [(.object "com/example/ludarc/ludarc/engine/Network$Builder"), .int, (.object "java/lang/String"), (.array .int), (.array .double)], returnType := none }, accessFlags := 0, code := some k12c0 }
def k12c1 : Code := { maxStack := 1, maxLocals := 1, code := prog_18_method_8_code, exceptionTable := #[], attributes := #[] }
def k12m1 : Method := { name := "size", desc := "()I", sig := { parameters := [], returnType := some .int }, accessFlags := 0, code := some k12c1 }
/-- com/example/ludarc/ludarc/engine/Variable -/
def k12 : Class := { plain "com/example/ludarc/ludarc/engine/Variable" (some 0) with
  accessFlags := 49
  interfaces := #[]
  cf := some (fileOf pool12 8 #[] #[{ accessFlags := 0, nameIndex := 5, descriptorIndex := 40, attributes := #[] }, { accessFlags := 0, nameIndex := 52, descriptorIndex := 51, attributes := #[] }] 49 2 #[] #[{ accessFlags := 18, nameIndex := 11, descriptorIndex := 12, attributes := #[] }, { accessFlags := 18, nameIndex := 15, descriptorIndex := 16, attributes := #[] }, { accessFlags := 18, nameIndex := 19, descriptorIndex := 20, attributes := #[] }, { accessFlags := 18, nameIndex := 23, descriptorIndex := 24, attributes := #[] }, { accessFlags := 18, nameIndex := 27, descriptorIndex := 28, attributes := #[] }])
  fields := #[{ name := "owner", type := (.object "com/example/ludarc/ludarc/engine/Network$Builder"), accessFlags := 18, slot := 0, constantValue := 0 }, { name := "index", type := .int, accessFlags := 18, slot := 1, constantValue := 0 }, { name := "name", type := (.object "java/lang/String"), accessFlags := 18, slot := 2, constantValue := 0 }, { name := "values", type := (.array .int), accessFlags := 18, slot := 3, constantValue := 0 }, { name := "probabilities", type := (.array .double), accessFlags := 18, slot := 4, constantValue := 0 }]
  methods := #[k12m0, k12m1]
  instanceTypes := #[(.object "com/example/ludarc/ludarc/engine/Network$Builder"), .int, (.object "java/lang/String"), (.array .int), (.array .double)]
  staticTypes := #[]
  resolved := Array.replicate 66 none
  statics := none }

def pool13 : Array CpInfo := pool [(1, .class_ 2), (0, u "java/lang/Comparable"), (0, .class_ 4), (0, u "java/lang/Object")] 7

/-- java/lang/Comparable -/
def k13 : Class := { plain "java/lang/Comparable" (some 0) with
  accessFlags := 1537
  interfaces := #[]
  cf := some (fileOf pool13 1 #[] #[] 1537 3 #[] #[])
  fields := #[]
  methods := #[]
  instanceTypes := #[]
  staticTypes := #[]
  resolved := Array.replicate 12 none
  statics := none }

def pool14 : Array CpInfo := pool [(2, .class_ 4), (1, u "java/lang/CharSequence"), (42, .class_ 48), (0, u "java/lang/CharSequence$1CodePointIterator"), (10, .class_ 60), (0, u "java/lang/CharSequence$1CharIterator"), (5, .class_ 67), (0, u "java/lang/Object")] 63

/-- java/lang/CharSequence -/
def k14 : Class := { plain "java/lang/CharSequence" (some 0) with
  accessFlags := 1537
  interfaces := #[]
  cf := some (fileOf pool14 2 #[.nestMembers #[47, 59]] #[] 1537 66 #[] #[])
  fields := #[]
  methods := #[]
  instanceTypes := #[]
  staticTypes := #[]
  resolved := Array.replicate 131 none
  statics := none }

def pool15 : Array CpInfo := pool [(1, .class_ 2), (0, u "java/lang/constant/Constable"), (0, .class_ 4), (0, u "java/lang/Object")] 6

/-- java/lang/constant/Constable -/
def k15 : Class := { plain "java/lang/constant/Constable" (some 0) with
  accessFlags := 1537
  interfaces := #[]
  cf := some (fileOf pool15 1 #[] #[] 1537 3 #[] #[])
  fields := #[]
  methods := #[]
  instanceTypes := #[]
  staticTypes := #[]
  resolved := Array.replicate 11 none
  statics := none }

def pool16 : Array CpInfo := pool [(1, .class_ 2), (0, u "java/lang/constant/ConstantDesc"), (0, .class_ 4), (0, u "java/lang/Object")] 32

/-- java/lang/constant/ConstantDesc -/
def k16 : Class := { plain "java/lang/constant/ConstantDesc" (some 0) with
  accessFlags := 1537
  interfaces := #[]
  cf := some (fileOf pool16 1 #[] #[] 1537 3 #[] #[])
  fields := #[]
  methods := #[]
  instanceTypes := #[]
  staticTypes := #[]
  resolved := Array.replicate 37 none
  statics := none }

def pool17 : Array CpInfo := pool [(2, .class_ 4), (1, u "java/lang/Object"), (0, u "<init>"), (0, u "()V"), (3, .class_ 12), (1, u "java/lang/String"), (0, u "value"), (0, u "[B"), (2, u "coder"), (0, u "B"), (2, u "hash"), (0, u "I"), (2, u "hashIsZero"), (0, u "Z"), (13, u "COMPACT_STRINGS"), (534, .class_ 576), (0, u "java/lang/CharSequence"), (22, u "CASE_INSENSITIVE_ORDER"), (0, u "Ljava/util/Comparator;"), (500, u "serialPersistentFields"), (0, u "[Ljava/io/ObjectStreamField;"), (0, .class_ 1104), (0, u "java/lang/String$CaseInsensitiveComparator"), (1, .class_ 1107), (0, u "java/io/Serializable"), (0, .class_ 1109), (0, u "java/lang/Comparable"), (0, .class_ 1111), (0, u "java/lang/constant/Constable"), (0, .class_ 1113), (0, u "java/lang/constant/ConstantDesc"), (2, u "serialVersionUID"), (0, u "J"), (3, u "REPL"), (0, u "C"), (2, u "LATIN1"), (1, u "UTF16")] 323

def k17m0 : Method := { name := "<init>", desc := "()V", sig := { parameters := [], returnType := none }, accessFlags := 1, code := none }
/-- java/lang/String -/
def k17 : Class := { plain "java/lang/String" (some 0) with
  accessFlags := 49
  interfaces := #[10, 13, 14, 15, 16]
  cf := some (fileOf pool17 10 #[.nestMembers #[1103]] #[{ accessFlags := 1, nameIndex := 5, descriptorIndex := 6, attributes := #[] }] 49 2 #[1106, 1108, 575, 1110, 1112] #[{ accessFlags := 18, nameIndex := 13, descriptorIndex := 14, attributes := #[] }, { accessFlags := 18, nameIndex := 17, descriptorIndex := 18, attributes := #[] }, { accessFlags := 2, nameIndex := 21, descriptorIndex := 22, attributes := #[] }, { accessFlags := 2, nameIndex := 25, descriptorIndex := 26, attributes := #[] }, { accessFlags := 26, nameIndex := 1116, descriptorIndex := 1117, attributes := #[] }, { accessFlags := 24, nameIndex := 40, descriptorIndex := 26, attributes := #[] }, { accessFlags := 26, nameIndex := 1101, descriptorIndex := 1102, attributes := #[] }, { accessFlags := 26, nameIndex := 1121, descriptorIndex := 1122, attributes := #[] }, { accessFlags := 25, nameIndex := 599, descriptorIndex := 600, attributes := #[] }, { accessFlags := 24, nameIndex := 1125, descriptorIndex := 18, attributes := #[] }, { accessFlags := 24, nameIndex := 1127, descriptorIndex := 18, attributes := #[] }])
  fields := #[{ name := "value", type := (.array .byte), accessFlags := 18, slot := 0, constantValue := 0 }, { name := "coder", type := .byte, accessFlags := 18, slot := 1, constantValue := 0 }, { name := "hash", type := .int, accessFlags := 2, slot := 2, constantValue := 0 }, { name := "hashIsZero", type := .boolean, accessFlags := 2, slot := 3, constantValue := 0 }, { name := "serialVersionUID", type := .long, accessFlags := 26, slot := 0, constantValue := 0 }, { name := "COMPACT_STRINGS", type := .boolean, accessFlags := 24, slot := 1, constantValue := 0 }, { name := "serialPersistentFields", type := (.array (.object "java/io/ObjectStreamField")), accessFlags := 26, slot := 2, constantValue := 0 }, { name := "REPL", type := .char, accessFlags := 26, slot := 3, constantValue := 0 }, { name := "CASE_INSENSITIVE_ORDER", type := (.object "java/util/Comparator"), accessFlags := 25, slot := 4, constantValue := 0 }, { name := "LATIN1", type := .byte, accessFlags := 24, slot := 5, constantValue := 0 }, { name := "UTF16", type := .byte, accessFlags := 24, slot := 6, constantValue := 0 }]
  methods := #[k17m0]
  instanceTypes := #[(.array .byte), .byte, .int, .boolean]
  staticTypes := #[.long, .boolean, (.array (.object "java/io/ObjectStreamField")), .char, (.object "java/util/Comparator"), .byte, .byte]
  resolved := Array.replicate 1451 none
  statics := none }

def pool18 : Array CpInfo := pool [(1, .class_ 2), (0, u "java/lang/Math"), (1, .class_ 6), (1, u "java/lang/Object"), (0, u "<init>"), (0, u "()V"), (89, .class_ 100), (1, u "java/lang/Math$RandomNumberGeneratorHolder"), (71, u "negativeZeroFloatBits"), (0, u "J"), (2, u "negativeZeroDoubleBits"), (21, u "max"), (46, u "$assertionsDisabled"), (0, u "Z"), (88, u "(II)I"), (2, u "twoToTheDoubleScaleDown"), (0, u "D"), (4, u "twoToTheDoubleScaleUp"), (9, u "E"), (3, u "PI"), (2, u "TAU"), (2, u "DEGREES_TO_RADIANS"), (0, u "RADIANS_TO_DEGREES")] 94

def k18m0 : Method := { name := "<init>", desc := "()V", sig := { parameters := [], returnType := none }, accessFlags := 2, code := none }
def k18c1 : Code := { maxStack := 2, maxLocals := 2, code := jdk_29_method_65_code, exceptionTable := #[], attributes := #[] }
def k18m1 : Method := { name := "max", desc := "(II)I", sig := { parameters := [.int, .int], returnType := some .int }, accessFlags := 9, code := some k18c1 }
/-- java/lang/Math -/
def k18 : Class := { plain "java/lang/Math" (some 0) with
  accessFlags := 49
  interfaces := #[]
  cf := some (fileOf pool18 1 #[.nestMembers #[98]] #[{ accessFlags := 2, nameIndex := 7, descriptorIndex := 8, attributes := #[] }, { accessFlags := 9, nameIndex := 198, descriptorIndex := 335, attributes := #[] }] 49 4 #[] #[{ accessFlags := 25, nameIndex := 354, descriptorIndex := 339, attributes := #[] }, { accessFlags := 25, nameIndex := 358, descriptorIndex := 339, attributes := #[] }, { accessFlags := 25, nameIndex := 361, descriptorIndex := 339, attributes := #[] }, { accessFlags := 26, nameIndex := 364, descriptorIndex := 339, attributes := #[] }, { accessFlags := 26, nameIndex := 365, descriptorIndex := 339, attributes := #[] }, { accessFlags := 26, nameIndex := 172, descriptorIndex := 173, attributes := #[] }, { accessFlags := 26, nameIndex := 176, descriptorIndex := 173, attributes := #[] }, { accessFlags := 8, nameIndex := 344, descriptorIndex := 339, attributes := #[] }, { accessFlags := 8, nameIndex := 338, descriptorIndex := 339, attributes := #[] }, { accessFlags := 4120, nameIndex := 245, descriptorIndex := 246, attributes := #[] }])
  fields := #[{ name := "E", type := .double, accessFlags := 25, slot := 0, constantValue := 0 }, { name := "PI", type := .double, accessFlags := 25, slot := 1, constantValue := 0 }, { name := "TAU", type := .double, accessFlags := 25, slot := 2, constantValue := 0 }, { name := "DEGREES_TO_RADIANS", type := .double, accessFlags := 26, slot := 3, constantValue := 0 }, { name := "RADIANS_TO_DEGREES", type := .double, accessFlags := 26, slot := 4, constantValue := 0 }, { name := "negativeZeroFloatBits", type := .long, accessFlags := 26, slot := 5, constantValue := 0 }, { name := "negativeZeroDoubleBits", type := .long, accessFlags := 26, slot := 6, constantValue := 0 }, { name := "twoToTheDoubleScaleUp", type := .double, accessFlags := 8, slot := 7, constantValue := 0 }, { name := "twoToTheDoubleScaleDown", type := .double, accessFlags := 8, slot := 8, constantValue := 0 }, { name := "$assertionsDisabled", type := .boolean, accessFlags := 4120, slot := 9, constantValue := 0 }]
  methods := #[k18m0, k18m1]
  instanceTypes := #[]
  staticTypes := #[.double, .double, .double, .double, .double, .long, .long, .double, .double, .boolean]
  resolved := Array.replicate 460 none
  statics := none }

def pool19 : Array CpInfo := pool [(1, .methodref 2 3), (0, .class_ 4), (0, .nameAndType 5 6), (0, u "java/lang/Object"), (0, u "<init>"), (0, u "()V"), (0, .fieldref 8 9), (0, .class_ 10), (0, .nameAndType 11 12), (0, u "com/example/ludarc/ludarc/engine/Domains"), (0, u "round"), (0, u "I"), (0, .interfaceMethodref 14 15), (0, .class_ 16), (0, .nameAndType 17 18), (0, u "java/util/List"), (0, u "size"), (0, u "()I"), (0, .class_ 20), (0, u "[I"), (0, .fieldref 8 22), (0, .nameAndType 23 24), (0, u "members"), (0, u "[[I"), (0, .fieldref 8 26), (0, .nameAndType 27 24), (0, u "positions"), (0, .fieldref 8 29), (0, .nameAndType 30 20), (0, u "sizes"), (0, .fieldref 8 32), (0, .nameAndType 33 24), (0, u "marks"), (0, .interfaceMethodref 14 35), (0, .nameAndType 36 37), (0, u "get"), (0, u "(I)Ljava/lang/Object;"), (0, .class_ 39), (0, u "com/example/ludarc/ludarc/engine/Variable"), (0, .methodref 38 15), (26, .integer 2147483647), (4, u "(Ljava/util/List;)V"), (10, u "(II)Z"), (8, u "clearMarks"), (1, u "mark"), (0, u "isMarked")] 2

def k19c0 : Code := { maxStack := 3, maxLocals := 5, code := prog_5_method_1_code, exceptionTable := #[], attributes := #[] }
def k19m0 : Method := { name := "<init>", desc := "(Ljava/util/List;)V", sig := { parameters := [(.object "java/util/List")], returnType := none }, accessFlags := 0, code := some k19c0 }
def k19c1 : Code := { maxStack := 3, maxLocals := 5, code := prog_5_method_11_code, exceptionTable := #[], attributes := #[] }
def k19m1 : Method := { name := "clearMarks", desc := "()V", sig := { parameters := [], returnType := none }, accessFlags := 0, code := some k19c1 }
def k19c2 : Code := { maxStack := 3, maxLocals := 4, code := prog_5_method_12_code, exceptionTable := #[], attributes := #[] }
def k19m2 : Method := { name := "mark", desc := "(II)Z", sig := { parameters := [.int, .int], returnType := some .boolean }, accessFlags := 0, code := some k19c2 }
def k19c3 : Code := { maxStack := 2, maxLocals := 3, code := prog_5_method_13_code, exceptionTable := #[], attributes := #[] }
def k19m3 : Method := { name := "isMarked", desc := "(II)Z", sig := { parameters := [.int, .int], returnType := some .boolean }, accessFlags := 0, code := some k19c3 }
/-- com/example/ludarc/ludarc/engine/Domains -/
def k19 : Class := { plain "com/example/ludarc/ludarc/engine/Domains" (some 0) with
  accessFlags := 48
  interfaces := #[]
  cf := some (fileOf pool19 8 #[] #[{ accessFlags := 0, nameIndex := 5, descriptorIndex := 72, attributes := #[] }, { accessFlags := 0, nameIndex := 92, descriptorIndex := 6, attributes := #[] }, { accessFlags := 0, nameIndex := 94, descriptorIndex := 83, attributes := #[] }, { accessFlags := 0, nameIndex := 95, descriptorIndex := 83, attributes := #[] }] 48 2 #[] #[{ accessFlags := 18, nameIndex := 23, descriptorIndex := 24, attributes := #[] }, { accessFlags := 18, nameIndex := 27, descriptorIndex := 24, attributes := #[] }, { accessFlags := 18, nameIndex := 30, descriptorIndex := 20, attributes := #[] }, { accessFlags := 18, nameIndex := 33, descriptorIndex := 24, attributes := #[] }, { accessFlags := 2, nameIndex := 11, descriptorIndex := 12, attributes := #[] }])
  fields := #[{ name := "members", type := (.array (.array .int)), accessFlags := 18, slot := 0, constantValue := 0 }, { name := "positions", type := (.array (.array .int)), accessFlags := 18, slot := 1, constantValue := 0 }, { name := "sizes", type := (.array .int), accessFlags := 18, slot := 2, constantValue := 0 }, { name := "marks", type := (.array (.array .int)), accessFlags := 18, slot := 3, constantValue := 0 }, { name := "round", type := .int, accessFlags := 2, slot := 4, constantValue := 0 }]
  methods := #[k19m0, k19m1, k19m2, k19m3]
  instanceTypes := #[(.array (.array .int)), (.array (.array .int)), (.array .int), (.array (.array .int)), .int]
  staticTypes := #[]
  resolved := Array.replicate 98 none
  statics := none }

def pool20 : Array CpInfo := pool [(2, .class_ 4), (1, u "java/lang/Object"), (0, u "<init>"), (0, u "()V"), (35, .class_ 44), (1, u "java/util/Objects"), (60, .methodref 106 107), (0, .class_ 108), (0, .nameAndType 109 110), (0, u "jdk/internal/util/Preconditions"), (0, u "checkIndex"), (0, u "(IILjava/util/function/BiFunction;)I"), (60, u "(II)I")] 12

def k20m0 : Method := { name := "<init>", desc := "()V", sig := { parameters := [], returnType := none }, accessFlags := 2, code := none }
def k20c1 : Code := { maxStack := 3, maxLocals := 2, code := jdk_31_method_17_code, exceptionTable := #[], attributes := #[] }
def k20m1 : Method := { name := "checkIndex", desc := "(II)I", sig := { parameters := [.int, .int], returnType := some .int }, accessFlags := 9, code := some k20c1 }
/-- java/util/Objects -/
def k20 : Class := { plain "java/util/Objects" (some 0) with
  accessFlags := 49
  interfaces := #[]
  cf := some (fileOf pool20 42 #[] #[{ accessFlags := 2, nameIndex := 5, descriptorIndex := 6, attributes := #[] }, { accessFlags := 9, nameIndex := 109, descriptorIndex := 171, attributes := #[] }] 49 2 #[] #[])
  fields := #[]
  methods := #[k20m0, k20m1]
  instanceTypes := #[]
  staticTypes := #[]
  resolved := Array.replicate 184 none
  statics := none }

def pool21 : Array CpInfo := pool [(2, .class_ 4), (1, u "java/lang/Object"), (0, u "<init>"), (0, u "()V"), (17, .class_ 26), (1, u "jdk/internal/util/Preconditions"), (6, u "checkIndex"), (21, .class_ 56), (0, u "jdk/internal/util/Preconditions$4"), (57, .class_ 115), (0, u "jdk/internal/util/Preconditions$1"), (7, u "SIOOBE_FORMATTER"), (0, u "Ljava/util/function/BiFunction;"), (0, .class_ 126), (0, u "jdk/internal/util/Preconditions$2"), (3, u "AIOOBE_FORMATTER"), (0, .class_ 132), (0, u "jdk/internal/util/Preconditions$3"), (3, u "IOOBE_FORMATTER"), (41, u "(IILjava/util/function/BiFunction;)I")] 15

def k21m0 : Method := { name := "<init>", desc := "()V", sig := { parameters := [], returnType := none }, accessFlags := 1, code := none }
def k21c1 : Code := { maxStack := 3, maxLocals := 3, code := jdk_41_method_11_code, exceptionTable := #[], attributes := #[] }
def k21m1 : Method := { name := "checkIndex", desc := "(IILjava/util/function/BiFunction;)I", sig := { parameters := [.int, .int, (.object "java/util/function/BiFunction")], returnType := some .int }, accessFlags := 9, code := some k21c1 }
/-- jdk/internal/util/Preconditions -/
def k21 : Class := { plain "jdk/internal/util/Preconditions" (some 0) with
  accessFlags := 33
  interfaces := #[]
  cf := some (fileOf pool21 24 #[.nestMembers #[55, 131, 125, 114]] #[{ accessFlags := 1, nameIndex := 5, descriptorIndex := 6, attributes := #[] }, { accessFlags := 9, nameIndex := 33, descriptorIndex := 178, attributes := #[] }] 33 2 #[] #[{ accessFlags := 25, nameIndex := 123, descriptorIndex := 124, attributes := #[] }, { accessFlags := 25, nameIndex := 130, descriptorIndex := 124, attributes := #[] }, { accessFlags := 25, nameIndex := 136, descriptorIndex := 124, attributes := #[] }])
  fields := #[{ name := "SIOOBE_FORMATTER", type := (.object "java/util/function/BiFunction"), accessFlags := 25, slot := 0, constantValue := 0 }, { name := "AIOOBE_FORMATTER", type := (.object "java/util/function/BiFunction"), accessFlags := 25, slot := 1, constantValue := 0 }, { name := "IOOBE_FORMATTER", type := (.object "java/util/function/BiFunction"), accessFlags := 25, slot := 2, constantValue := 0 }]
  methods := #[k21m0, k21m1]
  instanceTypes := #[]
  staticTypes := #[(.object "java/util/function/BiFunction"), (.object "java/util/function/BiFunction"), (.object "java/util/function/BiFunction")]
  resolved := Array.replicate 194 none
  statics := none }

/-- the primitive byte -/
def k22 : Class := { plain "byte" none with kind := .primitive 'B', accessFlags := 0x411 }
/-- [B -/
def k23 : Class := { plain "[B" (some 0) with kind := .array 22 .byte, interfaces := #[9, 10], accessFlags := 1041 }

/-- the primitive int -/
def k24 : Class := { plain "int" none with kind := .primitive 'I', accessFlags := 0x411 }
/-- [I -/
def k25 : Class := { plain "[I" (some 0) with kind := .array 24 .int, interfaces := #[9, 10], accessFlags := 1041 }

/-- [Ljava/lang/Object; -/
def k26 : Class := { plain "[Ljava/lang/Object;" (some 0) with kind := .array 0 (.object "java/lang/Object"), interfaces := #[9, 10], accessFlags := 1041 }

/-- [[I -/
def k27 : Class := { plain "[[I" (some 0) with kind := .array 25 (.array .int), interfaces := #[9, 10], accessFlags := 1041 }
def heap : Heap := #[{ cls := 11, slots := #[.long 0, .int 0, .ref 1, .ref 2], vm := .statics 11 },
  { cls := 26, slots := #[], vm := .none },
  { cls := 26, slots := #[], vm := .none }]
def classes : Array Class := #[k0, k1, k2, k3, k4, k5, k6, k7, k8, k9, k10, k11, k12, k13, k14, k15, k16, k17, k18, k19, k20, k21, k22, k23, k24, k25, k26, k27]
def interned : List (Array UInt16 × Addr) := []
def slotsUsed : Nat := 4
def theMethod : MethodId := ⟨1, 1⟩
def args0 : Array Value := #[.int 3, .int 4, .int 5, .int 1]
def aboutOver (below : List Frame) : State where
  vm := { classes := classes, interned := interned.toArray }
  heap := heap
  slotsUsed := slotsUsed
  threads := #[{ frames := .invoking theMethod args0 :: below }]
def below0 : List Frame := [.native { method := ⟨0, 0⟩, args := #[] }]
def about1 : State := aboutOver below0
def p0 : Program := .bare "" "" ""
def e0 : Env := launch0.env 0 0 0
theorem w_frames : about1.frames = Frame.invoking theMethod args0 :: below0 := rfl
set_option maxRecDepth 65536 in
theorem w_args : argsFit about1.vm theMethod args0 = true := by decide +kernel
set_option maxRecDepth 65536 in
theorem w_heap : heapFits about1 = true := by decide +kernel
set_option maxRecDepth 65536 in
theorem w_runnable : about1.curStatus? = some .runnable := by decide +kernel
set_option maxRecDepth 65536 in
theorem w_alone : about1.alone = true := by decide +kernel
set_option maxRecDepth 65536 in
theorem w_named : about1.methodNamed? x = some theMethod := by decide +kernel
set_option maxRecDepth 65536 in
theorem w_hears : about1.hears theMethod below0 = true := by decide +kernel
set_option maxRecDepth 65536 in
theorem w_ripe : about1.ripe theMethod args0 below0 = true := by decide +kernel
theorem w_running : about1.status = .running := rfl
set_option maxRecDepth 65536 in
theorem w_room : about1.hasRoom e0.platform room_1 = true :=
  launch0.hasRoom_least _ room_1 (by decide +kernel) (by decide +kernel) (by decide +kernel) (by decide +kernel) (by decide +kernel) (by decide +kernel)
theorem allAtoms_all (ts : List Jvm.Cond) (a : Array Jvm.Value) (st : Jvm.State) : (allAtoms ts).before a st = ts.all (fun c => c.before a st) := by
  induction ts with
  | nil => rfl
  | cons c t ih =>
    show (Jvm.Cond.and c (allAtoms t)).before a st = _
    rw [Jvm.Cond.before_and, ih, List.all_cons]
def words1 : List Jvm.Cond := Jvm.Cond.code x code maxLocals ret :: tables_1
/-- a 'code' word, met by the world's own term for the bytes: nothing is compared byte by byte -/
theorem code_word {y : MethodName} {bytes : ByteArray} {mx : Nat} {rt : Option FieldType} {a : Array Value} {s : State} {m : MethodId} {meth : Method} {c : Code} (h1 : s.methodNamed? y = some m) (h2 : s.vm.method? m = some meth) (h3 : meth.code = some c) (h4 : c.code = bytes)
    (h5 : (c.maxLocals == mx && c.exceptionTable.isEmpty && decide (c.maxStack ≤ mostOperands) && decide (meth.sig.returnType = rt) && !meth.locks && decide (parseMethodDescriptor y.desc = some meth.sig)) = true) : (Jvm.Cond.code y bytes mx rt).before a s = true := by
  simp only [Bool.and_eq_true, beq_iff_eq, Bool.not_eq_true', decide_eq_true_eq] at h5
  obtain ⟨⟨⟨⟨⟨g1, g2⟩, g3⟩, g4⟩, g5⟩, g6⟩ := h5
  simp [Cond.before, Cond.holds, Cond.value, h1, h2, h3, h4, g1, g2, g3, g4, g5, g6]
def isCode : Jvm.Cond → Bool
  | .code _ _ _ _ => true
  | _ => false
theorem all_split {L : List Jvm.Cond} {P : Jvm.Cond → Bool} (h1 : L.all (fun c => isCode c || P c) = true) (h2 : ∀ c ∈ L.filter isCode, P c = true) : L.all P = true := by
  refine List.all_eq_true.mpr fun c hc => ?_
  have h := List.all_eq_true.mp h1 c hc
  rcases Bool.eq_false_or_eq_true (isCode c) with hi | hi
  · exact h2 c (List.mem_filter.mpr ⟨hc, hi⟩)
  · simpa [hi] using h
set_option maxRecDepth 65536 in
theorem w_c0 : (Jvm.Cond.code x code maxLocals ret).before args0 about1 = true := code_word (m := ⟨1, 1⟩) (meth := k1m1) (c := k1c1) (by decide +kernel) rfl rfl rfl (by decide +kernel)
set_option maxRecDepth 65536 in
theorem w_c1 : (Jvm.Cond.code ({ cls := "java/util/ArrayList", name := "<init>", desc := "()V" } : Jvm.MethodName) jdk_38_method_2_code (1 : Nat) (Option.none : Option Jvm.ClassFile.FieldType)).before args0 about1 = true := code_word (m := ⟨11, 0⟩) (meth := k11m0) (c := k11c0) (by decide +kernel) rfl rfl rfl (by decide +kernel)
set_option maxRecDepth 65536 in
theorem w_c2 : (Jvm.Cond.code ({ cls := "java/util/AbstractList", name := "<init>", desc := "()V" } : Jvm.MethodName) jdk_39_method_1_code (1 : Nat) (Option.none : Option Jvm.ClassFile.FieldType)).before args0 about1 = true := code_word (m := ⟨7, 0⟩) (meth := k7m0) (c := k7c0) (by decide +kernel) rfl rfl rfl (by decide +kernel)
set_option maxRecDepth 65536 in
theorem w_c3 : (Jvm.Cond.code ({ cls := "java/util/AbstractCollection", name := "<init>", desc := "()V" } : Jvm.MethodName) jdk_22_method_1_code (1 : Nat) (Option.none : Option Jvm.ClassFile.FieldType)).before args0 about1 = true := code_word (m := ⟨4, 0⟩) (meth := k4m0) (c := k4c0) (by decide +kernel) rfl rfl rfl (by decide +kernel)
set_option maxRecDepth 65536 in
theorem w_c4 : (Jvm.Cond.code ({ cls := "java/lang/Object", name := "<init>", desc := "()V" } : Jvm.MethodName) object_method_1_code (1 : Nat) (Option.none : Option Jvm.ClassFile.FieldType)).before args0 about1 = true := code_word (m := ⟨0, 0⟩) (meth := k0m0) (c := k0c0) (by decide +kernel) rfl rfl rfl (by decide +kernel)
set_option maxRecDepth 65536 in
theorem w_c5 : (Jvm.Cond.code ({ cls := "com/example/ludarc/ludarc/engine/Variable", name := "<init>", desc := "(Lcom/example/ludarc/ludarc/engine/Network$Builder;ILjava/lang/String;[I[D)V" } : Jvm.MethodName) prog_18_method_1_code (6 : Nat) (Option.none : Option Jvm.ClassFile.FieldType)).before args0 about1 = true := code_word (m := ⟨12, 0⟩) (meth := k12m0) (c := k12c0) (by decide +kernel) rfl rfl rfl (by decide +kernel)
set_option maxRecDepth 65536 in
theorem w_c6 : (Jvm.Cond.code ({ cls := "java/util/ArrayList", name := "add", desc := "(Ljava/lang/Object;)Z" } : Jvm.MethodName) jdk_38_method_25_code (2 : Nat) (Option.some Jvm.ClassFile.FieldType.boolean)).before args0 about1 = true := code_word (m := ⟨11, 7⟩) (meth := k11m7) (c := k11c7) (by decide +kernel) rfl rfl rfl (by decide +kernel)
set_option maxRecDepth 65536 in
theorem w_c7 : (Jvm.Cond.code ({ cls := "java/util/ArrayList", name := "add", desc := "(Ljava/lang/Object;[Ljava/lang/Object;I)V" } : Jvm.MethodName) jdk_38_method_24_code (4 : Nat) (Option.none : Option Jvm.ClassFile.FieldType)).before args0 about1 = true := code_word (m := ⟨11, 6⟩) (meth := k11m6) (c := k11c6) (by decide +kernel) rfl rfl rfl (by decide +kernel)
set_option maxRecDepth 65536 in
theorem w_c8 : (Jvm.Cond.code ({ cls := "java/util/ArrayList", name := "grow", desc := "()[Ljava/lang/Object;" } : Jvm.MethodName) jdk_38_method_7_code (1 : Nat) (Option.some (Jvm.ClassFile.FieldType.array (Jvm.ClassFile.FieldType.object "java/lang/Object")))).before args0 about1 = true := code_word (m := ⟨11, 2⟩) (meth := k11m2) (c := k11c2) (by decide +kernel) rfl rfl rfl (by decide +kernel)
set_option maxRecDepth 65536 in
theorem w_c9 : (Jvm.Cond.code ({ cls := "java/util/ArrayList", name := "grow", desc := "(I)[Ljava/lang/Object;" } : Jvm.MethodName) jdk_38_method_6_code (4 : Nat) (Option.some (Jvm.ClassFile.FieldType.array (Jvm.ClassFile.FieldType.object "java/lang/Object")))).before args0 about1 = true := code_word (m := ⟨11, 1⟩) (meth := k11m1) (c := k11c1) (by decide +kernel) rfl rfl rfl (by decide +kernel)
set_option maxRecDepth 65536 in
theorem w_c10 : (Jvm.Cond.code ({ cls := "java/lang/Math", name := "max", desc := "(II)I" } : Jvm.MethodName) jdk_29_method_65_code (2 : Nat) (Option.some Jvm.ClassFile.FieldType.int)).before args0 about1 = true := code_word (m := ⟨18, 1⟩) (meth := k18m1) (c := k18c1) (by decide +kernel) rfl rfl rfl (by decide +kernel)
set_option maxRecDepth 65536 in
theorem w_c11 : (Jvm.Cond.code ({ cls := "com/example/ludarc/ludarc/engine/Domains", name := "<init>", desc := "(Ljava/util/List;)V" } : Jvm.MethodName) prog_5_method_1_code (5 : Nat) (Option.none : Option Jvm.ClassFile.FieldType)).before args0 about1 = true := code_word (m := ⟨19, 0⟩) (meth := k19m0) (c := k19c0) (by decide +kernel) rfl rfl rfl (by decide +kernel)
set_option maxRecDepth 65536 in
theorem w_c12 : (Jvm.Cond.code ({ cls := "java/util/ArrayList", name := "size", desc := "()I" } : Jvm.MethodName) jdk_38_method_8_code (1 : Nat) (Option.some Jvm.ClassFile.FieldType.int)).before args0 about1 = true := code_word (m := ⟨11, 3⟩) (meth := k11m3) (c := k11c3) (by decide +kernel) rfl rfl rfl (by decide +kernel)
set_option maxRecDepth 65536 in
theorem w_c13 : (Jvm.Cond.code ({ cls := "java/util/ArrayList", name := "get", desc := "(I)Ljava/lang/Object;" } : Jvm.MethodName) jdk_38_method_20_code (2 : Nat) (Option.some (Jvm.ClassFile.FieldType.object "java/lang/Object"))).before args0 about1 = true := code_word (m := ⟨11, 5⟩) (meth := k11m5) (c := k11c5) (by decide +kernel) rfl rfl rfl (by decide +kernel)
set_option maxRecDepth 65536 in
theorem w_c14 : (Jvm.Cond.code ({ cls := "java/util/Objects", name := "checkIndex", desc := "(II)I" } : Jvm.MethodName) jdk_31_method_17_code (2 : Nat) (Option.some Jvm.ClassFile.FieldType.int)).before args0 about1 = true := code_word (m := ⟨20, 1⟩) (meth := k20m1) (c := k20c1) (by decide +kernel) rfl rfl rfl (by decide +kernel)
set_option maxRecDepth 65536 in
theorem w_c15 : (Jvm.Cond.code ({ cls := "jdk/internal/util/Preconditions", name := "checkIndex", desc := "(IILjava/util/function/BiFunction;)I" } : Jvm.MethodName) jdk_41_method_11_code (3 : Nat) (Option.some Jvm.ClassFile.FieldType.int)).before args0 about1 = true := code_word (m := ⟨21, 1⟩) (meth := k21m1) (c := k21c1) (by decide +kernel) rfl rfl rfl (by decide +kernel)
set_option maxRecDepth 65536 in
theorem w_c16 : (Jvm.Cond.code ({ cls := "java/util/ArrayList", name := "elementData", desc := "(I)Ljava/lang/Object;" } : Jvm.MethodName) jdk_38_method_18_code (2 : Nat) (Option.some (Jvm.ClassFile.FieldType.object "java/lang/Object"))).before args0 about1 = true := code_word (m := ⟨11, 4⟩) (meth := k11m4) (c := k11c4) (by decide +kernel) rfl rfl rfl (by decide +kernel)
set_option maxRecDepth 65536 in
theorem w_c17 : (Jvm.Cond.code ({ cls := "com/example/ludarc/ludarc/engine/Variable", name := "size", desc := "()I" } : Jvm.MethodName) prog_18_method_8_code (1 : Nat) (Option.some Jvm.ClassFile.FieldType.int)).before args0 about1 = true := code_word (m := ⟨12, 1⟩) (meth := k12m1) (c := k12c1) (by decide +kernel) rfl rfl rfl (by decide +kernel)
set_option maxRecDepth 65536 in
theorem w_c18 : (Jvm.Cond.code ({ cls := "com/example/ludarc/ludarc/engine/Domains", name := "mark", desc := "(II)Z" } : Jvm.MethodName) prog_5_method_12_code (4 : Nat) (Option.some Jvm.ClassFile.FieldType.boolean)).before args0 about1 = true := code_word (m := ⟨19, 2⟩) (meth := k19m2) (c := k19c2) (by decide +kernel) rfl rfl rfl (by decide +kernel)
set_option maxRecDepth 65536 in
theorem w_c19 : (Jvm.Cond.code ({ cls := "com/example/ludarc/ludarc/engine/Domains", name := "isMarked", desc := "(II)Z" } : Jvm.MethodName) prog_5_method_13_code (3 : Nat) (Option.some Jvm.ClassFile.FieldType.boolean)).before args0 about1 = true := code_word (m := ⟨19, 3⟩) (meth := k19m3) (c := k19c3) (by decide +kernel) rfl rfl rfl (by decide +kernel)
set_option maxRecDepth 65536 in
theorem w_c20 : (Jvm.Cond.code ({ cls := "com/example/ludarc/ludarc/engine/Domains", name := "clearMarks", desc := "()V" } : Jvm.MethodName) prog_5_method_11_code (5 : Nat) (Option.none : Option Jvm.ClassFile.FieldType)).before args0 about1 = true := code_word (m := ⟨19, 1⟩) (meth := k19m1) (c := k19c1) (by decide +kernel) rfl rfl rfl (by decide +kernel)
def codes1 : List Jvm.Cond := [Jvm.Cond.code x code maxLocals ret, Jvm.Cond.code ({ cls := "java/util/ArrayList", name := "<init>", desc := "()V" } : Jvm.MethodName) jdk_38_method_2_code (1 : Nat) (Option.none : Option Jvm.ClassFile.FieldType), Jvm.Cond.code ({ cls := "java/util/AbstractList", name := "<init>", desc := "()V" } : Jvm.MethodName) jdk_39_method_1_code (1 : Nat) (Option.none : Option Jvm.ClassFile.FieldType), Jvm.Cond.code ({ cls := "java/util/AbstractCollection", name := "<init>", desc := "()V" } : Jvm.MethodName) jdk_22_method_1_code (1 : Nat) (Option.none : Option Jvm.ClassFile.FieldType), Jvm.Cond.code ({ cls := "java/lang/Object", name := "<init>", desc := "()V" } : Jvm.MethodName) object_method_1_code (1 : Nat) (Option.none : Option Jvm.ClassFile.FieldType), Jvm.Cond.code ({ cls := "com/example/ludarc/ludarc/engine/Variable", name := "<init>", desc := "(Lcom/example/ludarc/ludarc/engine/Network$Builder;ILjava/lang/String;[I[D)V" } : Jvm.MethodName) prog_18_method_1_code (6 : Nat) (Option.none : Option Jvm.ClassFile.FieldType), Jvm.Cond.code ({ cls := "java/util/ArrayList", name := "add", desc := "(Ljava/lang/Object;)Z" } : Jvm.MethodName) jdk_38_method_25_code (2 : Nat) (Option.some Jvm.ClassFile.FieldType.boolean), Jvm.Cond.code ({ cls := "java/util/ArrayList", name := "add", desc := "(Ljava/lang/Object;[Ljava/lang/Object;I)V" } : Jvm.MethodName) jdk_38_method_24_code (4 : Nat) (Option.none : Option Jvm.ClassFile.FieldType), Jvm.Cond.code ({ cls := "java/util/ArrayList", name := "grow", desc := "()[Ljava/lang/Object;" } : Jvm.MethodName) jdk_38_method_7_code (1 : Nat) (Option.some (Jvm.ClassFile.FieldType.array (Jvm.ClassFile.FieldType.object "java/lang/Object"))), Jvm.Cond.code ({ cls := "java/util/ArrayList", name := "grow", desc := "(I)[Ljava/lang/Object;" } : Jvm.MethodName) jdk_38_method_6_code (4 : Nat) (Option.some (Jvm.ClassFile.FieldType.array (Jvm.ClassFile.FieldType.object "java/lang/Object"))), Jvm.Cond.code ({ cls := "java/lang/Math", name := "max", desc := "(II)I" } : Jvm.MethodName) jdk_29_method_65_code (2 : Nat) (Option.some Jvm.ClassFile.FieldType.int), Jvm.Cond.code ({ cls := "com/example/ludarc/ludarc/engine/Domains", name := "<init>", desc := "(Ljava/util/List;)V" } : Jvm.MethodName) prog_5_method_1_code (5 : Nat) (Option.none : Option Jvm.ClassFile.FieldType), Jvm.Cond.code ({ cls := "java/util/ArrayList", name := "size", desc := "()I" } : Jvm.MethodName) jdk_38_method_8_code (1 : Nat) (Option.some Jvm.ClassFile.FieldType.int), Jvm.Cond.code ({ cls := "java/util/ArrayList", name := "get", desc := "(I)Ljava/lang/Object;" } : Jvm.MethodName) jdk_38_method_20_code (2 : Nat) (Option.some (Jvm.ClassFile.FieldType.object "java/lang/Object")), Jvm.Cond.code ({ cls := "java/util/Objects", name := "checkIndex", desc := "(II)I" } : Jvm.MethodName) jdk_31_method_17_code (2 : Nat) (Option.some Jvm.ClassFile.FieldType.int), Jvm.Cond.code ({ cls := "jdk/internal/util/Preconditions", name := "checkIndex", desc := "(IILjava/util/function/BiFunction;)I" } : Jvm.MethodName) jdk_41_method_11_code (3 : Nat) (Option.some Jvm.ClassFile.FieldType.int), Jvm.Cond.code ({ cls := "java/util/ArrayList", name := "elementData", desc := "(I)Ljava/lang/Object;" } : Jvm.MethodName) jdk_38_method_18_code (2 : Nat) (Option.some (Jvm.ClassFile.FieldType.object "java/lang/Object")), Jvm.Cond.code ({ cls := "com/example/ludarc/ludarc/engine/Variable", name := "size", desc := "()I" } : Jvm.MethodName) prog_18_method_8_code (1 : Nat) (Option.some Jvm.ClassFile.FieldType.int), Jvm.Cond.code ({ cls := "com/example/ludarc/ludarc/engine/Domains", name := "mark", desc := "(II)Z" } : Jvm.MethodName) prog_5_method_12_code (4 : Nat) (Option.some Jvm.ClassFile.FieldType.boolean), Jvm.Cond.code ({ cls := "com/example/ludarc/ludarc/engine/Domains", name := "isMarked", desc := "(II)Z" } : Jvm.MethodName) prog_5_method_13_code (3 : Nat) (Option.some Jvm.ClassFile.FieldType.boolean), Jvm.Cond.code ({ cls := "com/example/ludarc/ludarc/engine/Domains", name := "clearMarks", desc := "()V" } : Jvm.MethodName) prog_5_method_11_code (5 : Nat) (Option.none : Option Jvm.ClassFile.FieldType)]
set_option maxRecDepth 65536 in
theorem codes_eq : words1.filter isCode = codes1 := rfl
theorem w_codes : ∀ c ∈ words1.filter isCode, c.before args0 about1 = true := by
  rw [codes_eq]
  intro c hc
  simp only [codes1, List.mem_cons, List.not_mem_nil, or_false] at hc
  rcases hc with rfl | rfl | rfl | rfl | rfl | rfl | rfl | rfl | rfl | rfl | rfl | rfl | rfl | rfl | rfl | rfl | rfl | rfl | rfl | rfl | rfl
  · exact w_c0
  · exact w_c1
  · exact w_c2
  · exact w_c3
  · exact w_c4
  · exact w_c5
  · exact w_c6
  · exact w_c7
  · exact w_c8
  · exact w_c9
  · exact w_c10
  · exact w_c11
  · exact w_c12
  · exact w_c13
  · exact w_c14
  · exact w_c15
  · exact w_c16
  · exact w_c17
  · exact w_c18
  · exact w_c19
  · exact w_c20
set_option maxRecDepth 65536 in
theorem w_t1 : (words1.take 24).all (fun c => isCode c || c.before args0 about1) = true := by decide +kernel
set_option maxRecDepth 65536 in
theorem w_t2 : ((words1.drop 24).take 24).all (fun c => isCode c || c.before args0 about1) = true := by decide +kernel
set_option maxRecDepth 65536 in
theorem w_t3 : (((words1.drop 24).drop 24).take 24).all (fun c => isCode c || c.before args0 about1) = true := by decide +kernel
set_option maxRecDepth 65536 in
theorem w_t4 : ((((words1.drop 24).drop 24).drop 24).take 24).all (fun c => isCode c || c.before args0 about1) = true := by decide +kernel
set_option maxRecDepth 65536 in
theorem w_t5 : (((((words1.drop 24).drop 24).drop 24).drop 24).take 24).all (fun c => isCode c || c.before args0 about1) = true := by decide +kernel
set_option maxRecDepth 65536 in
theorem w_t6 : ((((((words1.drop 24).drop 24).drop 24).drop 24).drop 24).take 24).all (fun c => isCode c || c.before args0 about1) = true := by decide +kernel
set_option maxRecDepth 65536 in
theorem w_t7 : ((((((words1.drop 24).drop 24).drop 24).drop 24).drop 24).drop 24).all (fun c => isCode c || c.before args0 about1) = true := by decide +kernel
theorem w_tables : (allAtoms (Jvm.Cond.code x code maxLocals ret :: tables_1)).before args0 about1 = true := by
  rw [allAtoms_all]
  show words1.all (fun c => c.before args0 about1) = true
  refine all_split ?_ w_codes
  rw [← List.take_append_drop 24 words1, List.all_append, w_t1, ← List.take_append_drop 24 (words1.drop 24), List.all_append, w_t2, ← List.take_append_drop 24 ((words1.drop 24).drop 24), List.all_append, w_t3, ← List.take_append_drop 24 (((words1.drop 24).drop 24).drop 24), List.all_append, w_t4, ← List.take_append_drop 24 ((((words1.drop 24).drop 24).drop 24).drop 24), List.all_append, w_t5, ← List.take_append_drop 24 (((((words1.drop 24).drop 24).drop 24).drop 24).drop 24), List.all_append, w_t6, w_t7]
  rfl
set_option maxRecDepth 65536 in
theorem w_rest : rest_1_c.before args0 about1 = true := by decide +kernel
set_option maxRecDepth 65536 in
theorem w_case : (Jvm.Cond.and given_1 narrow_1).before args0 about1 = true := by decide +kernel
theorem w_applies : (headSpec (Jvm.Cond.code x code maxLocals ret :: tables_1) room_1).applies x e0.platform about1 = true :=
  (Spec.applies_iff w_frames).mpr ⟨w_running, w_runnable, w_alone, w_named, w_hears, w_ripe, w_room, w_tables⟩
theorem atStart : AtStart classFile x code maxLocals ret World_1 tables_1 room_1 Calls_1 rest_1 Pre_1 launch0 p0 e0 about1 theMethod args0 below0 :=
  ⟨lists_1, trivial, launch0.admits_env _ _ _, launch0.least_env, fairChoices_fair.cas, fairChoices_fair.clock, w_frames, w_args, w_heap, w_applies, trivial, w_rest, w_case⟩
end start1
theorem witness_1 : WitnessClaimed_1 := ⟨start1.p0, start1.e0, start1.about1, start1.theMethod, start1.args0, start1.below0, start1.atStart⟩
end Jvm.Pilot.@@N@@
