import JvmDerived
import JvmDerived.Pilot.@@N@@Statement
import JvmDerived.Pilot.@@N@@Code
set_option linter.unusedVariables false
set_option linter.unusedSimpArgs false
namespace Jvm.Pilot.@@N@@
open Jvm Jvm.ClassFile Sem Op Lib Jvm.Free Jvm.Stand Jvm.LawKit Jvm.RoadKit Bundle Jvm.Pilot.@@N@@.Jvm.D
/-- from A the run comes to B -/
def Go (p : Program) (e : Env) (below : List Frame) (A B : State) : Prop := ∀ t, Steps p.tables e below B t → Steps p.tables e below A t
def own_b (P : Prop) [Decidable P] : Int32 := if P then 1 else 0
theorem own_b1 {P : Prop} [Decidable P] (h : P) : ¬ own_b P = (0 : Int32) := by simp [own_b, h]
theorem own_b0 {P : Prop} [Decidable P] (h : ¬ P) : own_b P = (0 : Int32) := by simp [own_b, h]
theorem own_bt {P : Prop} [Decidable P] (h : P) : own_b P = (1 : Int32) := by simp [own_b, h]
theorem own_nb {P : Prop} [Decidable P] : nar .boolean (own_b P) = own_b P := by by_cases h : P <;> simp [own_b, h] <;> decide
theorem own_beq {P R : Prop} [Decidable P] [Decidable R] (h : P ↔ R) : own_b P = own_b R := by by_cases q : P <;> simp [own_b, q, ← h]
theorem d1_0 : decode jdk_38_method_2_code 0 = .ok (.aload_n 0, 1) := by decide +kernel
theorem d1_1 : decode jdk_38_method_2_code 1 = .ok (.invokespecial 1, 3) := by decide +kernel
theorem d1_4 : decode jdk_38_method_2_code 4 = .ok (.aload_n 0, 1) := by decide +kernel
theorem d1_5 : decode jdk_38_method_2_code 5 = .ok (.getstatic 39, 3) := by decide +kernel
theorem d1_8 : decode jdk_38_method_2_code 8 = .ok (.putfield 9, 3) := by decide +kernel
theorem d1_11 : decode jdk_38_method_2_code 11 = .ok (.return_, 1) := by decide +kernel
theorem d2_0 : decode jdk_39_method_1_code 0 = .ok (.aload_n 0, 1) := by decide +kernel
theorem d2_1 : decode jdk_39_method_1_code 1 = .ok (.invokespecial 1, 3) := by decide +kernel
theorem d2_4 : decode jdk_39_method_1_code 4 = .ok (.aload_n 0, 1) := by decide +kernel
theorem d2_5 : decode jdk_39_method_1_code 5 = .ok (.iconst 0, 1) := by decide +kernel
theorem d2_6 : decode jdk_39_method_1_code 6 = .ok (.putfield 7, 3) := by decide +kernel
theorem d2_9 : decode jdk_39_method_1_code 9 = .ok (.return_, 1) := by decide +kernel
theorem d3_0 : decode jdk_22_method_1_code 0 = .ok (.aload_n 0, 1) := by decide +kernel
theorem d3_1 : decode jdk_22_method_1_code 1 = .ok (.invokespecial 1, 3) := by decide +kernel
theorem d3_4 : decode jdk_22_method_1_code 4 = .ok (.return_, 1) := by decide +kernel
theorem d5_0 : decode prog_18_method_1_code 0 = .ok (.aload_n 0, 1) := by decide +kernel
theorem d5_1 : decode prog_18_method_1_code 1 = .ok (.invokespecial 1, 3) := by decide +kernel
theorem d5_4 : decode prog_18_method_1_code 4 = .ok (.aload_n 0, 1) := by decide +kernel
theorem d5_5 : decode prog_18_method_1_code 5 = .ok (.aload_n 1, 1) := by decide +kernel
theorem d5_6 : decode prog_18_method_1_code 6 = .ok (.putfield 7, 3) := by decide +kernel
theorem d5_9 : decode prog_18_method_1_code 9 = .ok (.aload_n 0, 1) := by decide +kernel
theorem d5_10 : decode prog_18_method_1_code 10 = .ok (.iload_n 2, 1) := by decide +kernel
theorem d5_11 : decode prog_18_method_1_code 11 = .ok (.putfield 13, 3) := by decide +kernel
theorem d5_14 : decode prog_18_method_1_code 14 = .ok (.aload_n 0, 1) := by decide +kernel
theorem d5_15 : decode prog_18_method_1_code 15 = .ok (.aload_n 3, 1) := by decide +kernel
theorem d5_16 : decode prog_18_method_1_code 16 = .ok (.putfield 17, 3) := by decide +kernel
theorem d5_19 : decode prog_18_method_1_code 19 = .ok (.aload_n 0, 1) := by decide +kernel
theorem d5_20 : decode prog_18_method_1_code 20 = .ok (.aload 4, 2) := by decide +kernel
theorem d5_22 : decode prog_18_method_1_code 22 = .ok (.putfield 21, 3) := by decide +kernel
theorem d5_25 : decode prog_18_method_1_code 25 = .ok (.aload_n 0, 1) := by decide +kernel
theorem d5_26 : decode prog_18_method_1_code 26 = .ok (.aload 5, 2) := by decide +kernel
theorem d5_28 : decode prog_18_method_1_code 28 = .ok (.putfield 25, 3) := by decide +kernel
theorem d5_31 : decode prog_18_method_1_code 31 = .ok (.return_, 1) := by decide +kernel
theorem d6_0 : decode jdk_38_method_25_code 0 = .ok (.aload_n 0, 1) := by decide +kernel
theorem d6_1 : decode jdk_38_method_25_code 1 = .ok (.dup, 1) := by decide +kernel
theorem d6_2 : decode jdk_38_method_25_code 2 = .ok (.getfield 63, 3) := by decide +kernel
theorem d6_5 : decode jdk_38_method_25_code 5 = .ok (.iconst 1, 1) := by decide +kernel
theorem d6_6 : decode jdk_38_method_25_code 6 = .ok (.iadd, 1) := by decide +kernel
theorem d6_7 : decode jdk_38_method_25_code 7 = .ok (.putfield 63, 3) := by decide +kernel
theorem d6_10 : decode jdk_38_method_25_code 10 = .ok (.aload_n 0, 1) := by decide +kernel
theorem d6_11 : decode jdk_38_method_25_code 11 = .ok (.aload_n 1, 1) := by decide +kernel
theorem d6_12 : decode jdk_38_method_25_code 12 = .ok (.aload_n 0, 1) := by decide +kernel
theorem d6_13 : decode jdk_38_method_25_code 13 = .ok (.getfield 9, 3) := by decide +kernel
theorem d6_16 : decode jdk_38_method_25_code 16 = .ok (.aload_n 0, 1) := by decide +kernel
theorem d6_17 : decode jdk_38_method_25_code 17 = .ok (.getfield 48, 3) := by decide +kernel
theorem d6_20 : decode jdk_38_method_25_code 20 = .ok (.invokevirtual 131, 3) := by decide +kernel
theorem d6_23 : decode jdk_38_method_25_code 23 = .ok (.iconst 1, 1) := by decide +kernel
theorem d6_24 : decode jdk_38_method_25_code 24 = .ok (.ireturn, 1) := by decide +kernel
theorem d7_0 : decode jdk_38_method_24_code 0 = .ok (.iload_n 3, 1) := by decide +kernel
theorem d7_1 : decode jdk_38_method_24_code 1 = .ok (.aload_n 2, 1) := by decide +kernel
theorem d7_2 : decode jdk_38_method_24_code 2 = .ok (.arraylength, 1) := by decide +kernel
theorem d7_3 : decode jdk_38_method_24_code 3 = .ok (.if_icmp .ne 8, 3) := by decide +kernel
theorem d7_6 : decode jdk_38_method_24_code 6 = .ok (.aload_n 0, 1) := by decide +kernel
theorem d7_7 : decode jdk_38_method_24_code 7 = .ok (.invokevirtual 129, 3) := by decide +kernel
theorem d7_10 : decode jdk_38_method_24_code 10 = .ok (.astore_n 2, 1) := by decide +kernel
theorem d7_11 : decode jdk_38_method_24_code 11 = .ok (.aload_n 2, 1) := by decide +kernel
theorem d7_12 : decode jdk_38_method_24_code 12 = .ok (.iload_n 3, 1) := by decide +kernel
theorem d7_13 : decode jdk_38_method_24_code 13 = .ok (.aload_n 1, 1) := by decide +kernel
theorem d7_14 : decode jdk_38_method_24_code 14 = .ok (.aastore, 1) := by decide +kernel
theorem d7_15 : decode jdk_38_method_24_code 15 = .ok (.aload_n 0, 1) := by decide +kernel
theorem d7_16 : decode jdk_38_method_24_code 16 = .ok (.iload_n 3, 1) := by decide +kernel
theorem d7_17 : decode jdk_38_method_24_code 17 = .ok (.iconst 1, 1) := by decide +kernel
theorem d7_18 : decode jdk_38_method_24_code 18 = .ok (.iadd, 1) := by decide +kernel
theorem d7_19 : decode jdk_38_method_24_code 19 = .ok (.putfield 48, 3) := by decide +kernel
theorem d7_22 : decode jdk_38_method_24_code 22 = .ok (.return_, 1) := by decide +kernel
theorem d8_0 : decode jdk_38_method_7_code 0 = .ok (.aload_n 0, 1) := by decide +kernel
theorem d8_1 : decode jdk_38_method_7_code 1 = .ok (.aload_n 0, 1) := by decide +kernel
theorem d8_2 : decode jdk_38_method_7_code 2 = .ok (.getfield 48, 3) := by decide +kernel
theorem d8_5 : decode jdk_38_method_7_code 5 = .ok (.iconst 1, 1) := by decide +kernel
theorem d8_6 : decode jdk_38_method_7_code 6 = .ok (.iadd, 1) := by decide +kernel
theorem d8_7 : decode jdk_38_method_7_code 7 = .ok (.invokevirtual 69, 3) := by decide +kernel
theorem d8_10 : decode jdk_38_method_7_code 10 = .ok (.areturn, 1) := by decide +kernel
theorem d9_0 : decode jdk_38_method_6_code 0 = .ok (.aload_n 0, 1) := by decide +kernel
theorem d9_1 : decode jdk_38_method_6_code 1 = .ok (.getfield 9, 3) := by decide +kernel
theorem d9_4 : decode jdk_38_method_6_code 4 = .ok (.arraylength, 1) := by decide +kernel
theorem d9_5 : decode jdk_38_method_6_code 5 = .ok (.istore_n 2, 1) := by decide +kernel
theorem d9_6 : decode jdk_38_method_6_code 6 = .ok (.iload_n 2, 1) := by decide +kernel
theorem d9_7 : decode jdk_38_method_6_code 7 = .ok (.ifCond .gt 13, 3) := by decide +kernel
theorem d9_10 : decode jdk_38_method_6_code 10 = .ok (.aload_n 0, 1) := by decide +kernel
theorem d9_11 : decode jdk_38_method_6_code 11 = .ok (.getfield 9, 3) := by decide +kernel
theorem d9_14 : decode jdk_38_method_6_code 14 = .ok (.getstatic 39, 3) := by decide +kernel
theorem d9_17 : decode jdk_38_method_6_code 17 = .ok (.if_acmp .eq 28, 3) := by decide +kernel
theorem d9_45 : decode jdk_38_method_6_code 45 = .ok (.aload_n 0, 1) := by decide +kernel
theorem d9_46 : decode jdk_38_method_6_code 46 = .ok (.bipush 10, 2) := by decide +kernel
theorem d9_48 : decode jdk_38_method_6_code 48 = .ok (.iload_n 1, 1) := by decide +kernel
theorem d9_49 : decode jdk_38_method_6_code 49 = .ok (.invokestatic 79, 3) := by decide +kernel
theorem d9_52 : decode jdk_38_method_6_code 52 = .ok (.anewarray 7, 3) := by decide +kernel
theorem d9_55 : decode jdk_38_method_6_code 55 = .ok (.dup_x1, 1) := by decide +kernel
theorem d9_56 : decode jdk_38_method_6_code 56 = .ok (.putfield 9, 3) := by decide +kernel
theorem d9_59 : decode jdk_38_method_6_code 59 = .ok (.areturn, 1) := by decide +kernel
theorem d10_0 : decode jdk_29_method_65_code 0 = .ok (.iload_n 0, 1) := by decide +kernel
theorem d10_1 : decode jdk_29_method_65_code 1 = .ok (.iload_n 1, 1) := by decide +kernel
theorem d10_2 : decode jdk_29_method_65_code 2 = .ok (.if_icmp .lt 7, 3) := by decide +kernel
theorem d10_5 : decode jdk_29_method_65_code 5 = .ok (.iload_n 0, 1) := by decide +kernel
theorem d10_6 : decode jdk_29_method_65_code 6 = .ok (.goto 4, 3) := by decide +kernel
theorem d10_10 : decode jdk_29_method_65_code 10 = .ok (.ireturn, 1) := by decide +kernel
theorem d11_0 : decode prog_5_method_1_code 0 = .ok (.aload_n 0, 1) := by decide +kernel
theorem d11_1 : decode prog_5_method_1_code 1 = .ok (.invokespecial 1, 3) := by decide +kernel
theorem d11_4 : decode prog_5_method_1_code 4 = .ok (.aload_n 0, 1) := by decide +kernel
theorem d11_5 : decode prog_5_method_1_code 5 = .ok (.iconst 1, 1) := by decide +kernel
theorem d11_6 : decode prog_5_method_1_code 6 = .ok (.putfield 7, 3) := by decide +kernel
theorem d11_9 : decode prog_5_method_1_code 9 = .ok (.aload_n 0, 1) := by decide +kernel
theorem d11_10 : decode prog_5_method_1_code 10 = .ok (.aload_n 1, 1) := by decide +kernel
theorem d11_11 : decode prog_5_method_1_code 11 = .ok (.invokeinterface 13 1, 5) := by decide +kernel
theorem d11_16 : decode prog_5_method_1_code 16 = .ok (.anewarray 19, 3) := by decide +kernel
theorem d11_19 : decode prog_5_method_1_code 19 = .ok (.putfield 21, 3) := by decide +kernel
theorem d11_22 : decode prog_5_method_1_code 22 = .ok (.aload_n 0, 1) := by decide +kernel
theorem d11_23 : decode prog_5_method_1_code 23 = .ok (.aload_n 1, 1) := by decide +kernel
theorem d11_24 : decode prog_5_method_1_code 24 = .ok (.invokeinterface 13 1, 5) := by decide +kernel
theorem d11_29 : decode prog_5_method_1_code 29 = .ok (.anewarray 19, 3) := by decide +kernel
theorem d11_32 : decode prog_5_method_1_code 32 = .ok (.putfield 25, 3) := by decide +kernel
theorem d11_35 : decode prog_5_method_1_code 35 = .ok (.aload_n 0, 1) := by decide +kernel
theorem d11_36 : decode prog_5_method_1_code 36 = .ok (.aload_n 1, 1) := by decide +kernel
theorem d11_37 : decode prog_5_method_1_code 37 = .ok (.invokeinterface 13 1, 5) := by decide +kernel
theorem d11_42 : decode prog_5_method_1_code 42 = .ok (.newarray .int, 2) := by decide +kernel
theorem d11_44 : decode prog_5_method_1_code 44 = .ok (.putfield 28, 3) := by decide +kernel
theorem d11_47 : decode prog_5_method_1_code 47 = .ok (.aload_n 0, 1) := by decide +kernel
theorem d11_48 : decode prog_5_method_1_code 48 = .ok (.aload_n 1, 1) := by decide +kernel
theorem d11_49 : decode prog_5_method_1_code 49 = .ok (.invokeinterface 13 1, 5) := by decide +kernel
theorem d11_54 : decode prog_5_method_1_code 54 = .ok (.anewarray 19, 3) := by decide +kernel
theorem d11_57 : decode prog_5_method_1_code 57 = .ok (.putfield 31, 3) := by decide +kernel
theorem d11_60 : decode prog_5_method_1_code 60 = .ok (.iconst 0, 1) := by decide +kernel
theorem d11_61 : decode prog_5_method_1_code 61 = .ok (.istore_n 2, 1) := by decide +kernel
theorem d11_62 : decode prog_5_method_1_code 62 = .ok (.iload_n 2, 1) := by decide +kernel
theorem d11_63 : decode prog_5_method_1_code 63 = .ok (.aload_n 0, 1) := by decide +kernel
theorem d11_64 : decode prog_5_method_1_code 64 = .ok (.getfield 21, 3) := by decide +kernel
theorem d11_67 : decode prog_5_method_1_code 67 = .ok (.arraylength, 1) := by decide +kernel
theorem d11_68 : decode prog_5_method_1_code 68 = .ok (.if_icmp .ge 94, 3) := by decide +kernel
theorem d11_71 : decode prog_5_method_1_code 71 = .ok (.aload_n 1, 1) := by decide +kernel
theorem d11_72 : decode prog_5_method_1_code 72 = .ok (.iload_n 2, 1) := by decide +kernel
theorem d11_73 : decode prog_5_method_1_code 73 = .ok (.invokeinterface 34 2, 5) := by decide +kernel
theorem d11_78 : decode prog_5_method_1_code 78 = .ok (.checkcast 38, 3) := by decide +kernel
theorem d11_81 : decode prog_5_method_1_code 81 = .ok (.invokevirtual 40, 3) := by decide +kernel
theorem d11_84 : decode prog_5_method_1_code 84 = .ok (.istore_n 3, 1) := by decide +kernel
theorem d11_85 : decode prog_5_method_1_code 85 = .ok (.aload_n 0, 1) := by decide +kernel
theorem d11_86 : decode prog_5_method_1_code 86 = .ok (.getfield 21, 3) := by decide +kernel
theorem d11_89 : decode prog_5_method_1_code 89 = .ok (.iload_n 2, 1) := by decide +kernel
theorem d11_90 : decode prog_5_method_1_code 90 = .ok (.iload_n 3, 1) := by decide +kernel
theorem d11_91 : decode prog_5_method_1_code 91 = .ok (.newarray .int, 2) := by decide +kernel
theorem d11_93 : decode prog_5_method_1_code 93 = .ok (.aastore, 1) := by decide +kernel
theorem d11_94 : decode prog_5_method_1_code 94 = .ok (.aload_n 0, 1) := by decide +kernel
theorem d11_95 : decode prog_5_method_1_code 95 = .ok (.getfield 25, 3) := by decide +kernel
theorem d11_98 : decode prog_5_method_1_code 98 = .ok (.iload_n 2, 1) := by decide +kernel
theorem d11_99 : decode prog_5_method_1_code 99 = .ok (.iload_n 3, 1) := by decide +kernel
theorem d11_100 : decode prog_5_method_1_code 100 = .ok (.newarray .int, 2) := by decide +kernel
theorem d11_102 : decode prog_5_method_1_code 102 = .ok (.aastore, 1) := by decide +kernel
theorem d11_103 : decode prog_5_method_1_code 103 = .ok (.iconst 0, 1) := by decide +kernel
theorem d11_104 : decode prog_5_method_1_code 104 = .ok (.istore 4, 2) := by decide +kernel
theorem d11_106 : decode prog_5_method_1_code 106 = .ok (.iload 4, 2) := by decide +kernel
theorem d11_108 : decode prog_5_method_1_code 108 = .ok (.iload_n 3, 1) := by decide +kernel
theorem d11_109 : decode prog_5_method_1_code 109 = .ok (.if_icmp .ge 31, 3) := by decide +kernel
theorem d11_112 : decode prog_5_method_1_code 112 = .ok (.aload_n 0, 1) := by decide +kernel
theorem d11_113 : decode prog_5_method_1_code 113 = .ok (.getfield 21, 3) := by decide +kernel
theorem d11_116 : decode prog_5_method_1_code 116 = .ok (.iload_n 2, 1) := by decide +kernel
theorem d11_117 : decode prog_5_method_1_code 117 = .ok (.aaload, 1) := by decide +kernel
theorem d11_118 : decode prog_5_method_1_code 118 = .ok (.iload 4, 2) := by decide +kernel
theorem d11_120 : decode prog_5_method_1_code 120 = .ok (.iload 4, 2) := by decide +kernel
theorem d11_122 : decode prog_5_method_1_code 122 = .ok (.iastore, 1) := by decide +kernel
theorem d11_123 : decode prog_5_method_1_code 123 = .ok (.aload_n 0, 1) := by decide +kernel
theorem d11_124 : decode prog_5_method_1_code 124 = .ok (.getfield 25, 3) := by decide +kernel
theorem d11_127 : decode prog_5_method_1_code 127 = .ok (.iload_n 2, 1) := by decide +kernel
theorem d11_128 : decode prog_5_method_1_code 128 = .ok (.aaload, 1) := by decide +kernel
theorem d11_129 : decode prog_5_method_1_code 129 = .ok (.iload 4, 2) := by decide +kernel
theorem d11_131 : decode prog_5_method_1_code 131 = .ok (.iload 4, 2) := by decide +kernel
theorem d11_133 : decode prog_5_method_1_code 133 = .ok (.iastore, 1) := by decide +kernel
theorem d11_134 : decode prog_5_method_1_code 134 = .ok (.iinc 4 1, 3) := by decide +kernel
theorem d11_137 : decode prog_5_method_1_code 137 = .ok (.goto (-31), 3) := by decide +kernel
theorem d11_140 : decode prog_5_method_1_code 140 = .ok (.aload_n 0, 1) := by decide +kernel
theorem d11_141 : decode prog_5_method_1_code 141 = .ok (.getfield 28, 3) := by decide +kernel
theorem d11_144 : decode prog_5_method_1_code 144 = .ok (.iload_n 2, 1) := by decide +kernel
theorem d11_145 : decode prog_5_method_1_code 145 = .ok (.iload_n 3, 1) := by decide +kernel
theorem d11_146 : decode prog_5_method_1_code 146 = .ok (.iastore, 1) := by decide +kernel
theorem d11_147 : decode prog_5_method_1_code 147 = .ok (.aload_n 0, 1) := by decide +kernel
theorem d11_148 : decode prog_5_method_1_code 148 = .ok (.getfield 31, 3) := by decide +kernel
theorem d11_151 : decode prog_5_method_1_code 151 = .ok (.iload_n 2, 1) := by decide +kernel
theorem d11_152 : decode prog_5_method_1_code 152 = .ok (.iload_n 3, 1) := by decide +kernel
theorem d11_153 : decode prog_5_method_1_code 153 = .ok (.newarray .int, 2) := by decide +kernel
theorem d11_155 : decode prog_5_method_1_code 155 = .ok (.aastore, 1) := by decide +kernel
theorem d11_156 : decode prog_5_method_1_code 156 = .ok (.iinc 2 1, 3) := by decide +kernel
theorem d11_159 : decode prog_5_method_1_code 159 = .ok (.goto (-97), 3) := by decide +kernel
theorem d11_162 : decode prog_5_method_1_code 162 = .ok (.return_, 1) := by decide +kernel
theorem d12_0 : decode jdk_38_method_8_code 0 = .ok (.aload_n 0, 1) := by decide +kernel
theorem d12_1 : decode jdk_38_method_8_code 1 = .ok (.getfield 48, 3) := by decide +kernel
theorem d12_4 : decode jdk_38_method_8_code 4 = .ok (.ireturn, 1) := by decide +kernel
theorem d13_0 : decode jdk_38_method_20_code 0 = .ok (.iload_n 1, 1) := by decide +kernel
theorem d13_1 : decode jdk_38_method_20_code 1 = .ok (.aload_n 0, 1) := by decide +kernel
theorem d13_2 : decode jdk_38_method_20_code 2 = .ok (.getfield 48, 3) := by decide +kernel
theorem d13_5 : decode jdk_38_method_20_code 5 = .ok (.invokestatic 118, 3) := by decide +kernel
theorem d13_8 : decode jdk_38_method_20_code 8 = .ok (.pop, 1) := by decide +kernel
theorem d13_9 : decode jdk_38_method_20_code 9 = .ok (.aload_n 0, 1) := by decide +kernel
theorem d13_10 : decode jdk_38_method_20_code 10 = .ok (.iload_n 1, 1) := by decide +kernel
theorem d13_11 : decode jdk_38_method_20_code 11 = .ok (.invokevirtual 123, 3) := by decide +kernel
theorem d13_14 : decode jdk_38_method_20_code 14 = .ok (.areturn, 1) := by decide +kernel
theorem d14_0 : decode jdk_31_method_17_code 0 = .ok (.iload_n 0, 1) := by decide +kernel
theorem d14_1 : decode jdk_31_method_17_code 1 = .ok (.iload_n 1, 1) := by decide +kernel
theorem d14_2 : decode jdk_31_method_17_code 2 = .ok (.aconst_null, 1) := by decide +kernel
theorem d14_3 : decode jdk_31_method_17_code 3 = .ok (.invokestatic 105, 3) := by decide +kernel
theorem d14_6 : decode jdk_31_method_17_code 6 = .ok (.ireturn, 1) := by decide +kernel
theorem d15_0 : decode jdk_41_method_11_code 0 = .ok (.iload_n 0, 1) := by decide +kernel
theorem d15_1 : decode jdk_41_method_11_code 1 = .ok (.ifCond .lt 8, 3) := by decide +kernel
theorem d15_4 : decode jdk_41_method_11_code 4 = .ok (.iload_n 0, 1) := by decide +kernel
theorem d15_5 : decode jdk_41_method_11_code 5 = .ok (.iload_n 1, 1) := by decide +kernel
theorem d15_6 : decode jdk_41_method_11_code 6 = .ok (.if_icmp .lt 10, 3) := by decide +kernel
theorem d15_16 : decode jdk_41_method_11_code 16 = .ok (.iload_n 0, 1) := by decide +kernel
theorem d15_17 : decode jdk_41_method_11_code 17 = .ok (.ireturn, 1) := by decide +kernel
theorem d16_0 : decode jdk_38_method_18_code 0 = .ok (.aload_n 0, 1) := by decide +kernel
theorem d16_1 : decode jdk_38_method_18_code 1 = .ok (.getfield 9, 3) := by decide +kernel
theorem d16_4 : decode jdk_38_method_18_code 4 = .ok (.iload_n 1, 1) := by decide +kernel
theorem d16_5 : decode jdk_38_method_18_code 5 = .ok (.aaload, 1) := by decide +kernel
theorem d16_6 : decode jdk_38_method_18_code 6 = .ok (.areturn, 1) := by decide +kernel
theorem d17_0 : decode prog_18_method_8_code 0 = .ok (.aload_n 0, 1) := by decide +kernel
theorem d17_1 : decode prog_18_method_8_code 1 = .ok (.getfield 21, 3) := by decide +kernel
theorem d17_4 : decode prog_18_method_8_code 4 = .ok (.arraylength, 1) := by decide +kernel
theorem d17_5 : decode prog_18_method_8_code 5 = .ok (.ireturn, 1) := by decide +kernel
theorem d18_0 : decode method_3_code 0 = .ok (.iload_n 3, 1) := by decide +kernel
theorem d18_1 : decode method_3_code 1 = .ok (.iconst 3, 1) := by decide +kernel
theorem d18_2 : decode method_3_code 2 = .ok (.iand, 1) := by decide +kernel
theorem d18_3 : decode method_3_code 3 = .ok (.istore 4, 2) := by decide +kernel
theorem d18_5 : decode method_3_code 5 = .ok (.iload_n 3, 1) := by decide +kernel
theorem d18_6 : decode method_3_code 6 = .ok (.iconst 2, 1) := by decide +kernel
theorem d18_7 : decode method_3_code 7 = .ok (.iushr, 1) := by decide +kernel
theorem d18_8 : decode method_3_code 8 = .ok (.iconst 3, 1) := by decide +kernel
theorem d18_9 : decode method_3_code 9 = .ok (.iand, 1) := by decide +kernel
theorem d18_10 : decode method_3_code 10 = .ok (.istore 5, 2) := by decide +kernel
theorem d18_12 : decode method_3_code 12 = .ok (.iload 5, 2) := by decide +kernel
theorem d18_14 : decode method_3_code 14 = .ok (.ifCond .ne 25, 3) := by decide +kernel
theorem d18_17 : decode method_3_code 17 = .ok (.aload_n 1, 1) := by decide +kernel
theorem d18_18 : decode method_3_code 18 = .ok (.iload 4, 2) := by decide +kernel
theorem d18_20 : decode method_3_code 20 = .ok (.baload, 1) := by decide +kernel
theorem d18_21 : decode method_3_code 21 = .ok (.ifCond .eq 93, 3) := by decide +kernel
theorem d18_24 : decode method_3_code 24 = .ok (.aload_n 0, 1) := by decide +kernel
theorem d18_25 : decode method_3_code 25 = .ok (.iconst 0, 1) := by decide +kernel
theorem d18_26 : decode method_3_code 26 = .ok (.iload 4, 2) := by decide +kernel
theorem d18_28 : decode method_3_code 28 = .ok (.invokevirtual 38, 3) := by decide +kernel
theorem d18_31 : decode method_3_code 31 = .ok (.aload_n 1, 1) := by decide +kernel
theorem d18_32 : decode method_3_code 32 = .ok (.iload 4, 2) := by decide +kernel
theorem d18_34 : decode method_3_code 34 = .ok (.iconst 0, 1) := by decide +kernel
theorem d18_35 : decode method_3_code 35 = .ok (.bastore, 1) := by decide +kernel
theorem d18_36 : decode method_3_code 36 = .ok (.goto 78, 3) := by decide +kernel
theorem d18_39 : decode method_3_code 39 = .ok (.iload 5, 2) := by decide +kernel
theorem d18_41 : decode method_3_code 41 = .ok (.iconst 1, 1) := by decide +kernel
theorem d18_42 : decode method_3_code 42 = .ok (.if_icmp .ne 41, 3) := by decide +kernel
theorem d18_45 : decode method_3_code 45 = .ok (.aload_n 1, 1) := by decide +kernel
theorem d18_46 : decode method_3_code 46 = .ok (.iload 4, 2) := by decide +kernel
theorem d18_48 : decode method_3_code 48 = .ok (.baload, 1) := by decide +kernel
theorem d18_49 : decode method_3_code 49 = .ok (.ifCond .eq 65, 3) := by decide +kernel
theorem d18_52 : decode method_3_code 52 = .ok (.aload_n 0, 1) := by decide +kernel
theorem d18_53 : decode method_3_code 53 = .ok (.iconst 0, 1) := by decide +kernel
theorem d18_54 : decode method_3_code 54 = .ok (.iload 4, 2) := by decide +kernel
theorem d18_56 : decode method_3_code 56 = .ok (.invokevirtual 42, 3) := by decide +kernel
theorem d18_59 : decode method_3_code 59 = .ok (.aload_n 1, 1) := by decide +kernel
theorem d18_60 : decode method_3_code 60 = .ok (.iconst 0, 1) := by decide +kernel
theorem d18_61 : decode method_3_code 61 = .ok (.iconst 0, 1) := by decide +kernel
theorem d18_62 : decode method_3_code 62 = .ok (.bastore, 1) := by decide +kernel
theorem d18_63 : decode method_3_code 63 = .ok (.aload_n 1, 1) := by decide +kernel
theorem d18_64 : decode method_3_code 64 = .ok (.iconst 1, 1) := by decide +kernel
theorem d18_65 : decode method_3_code 65 = .ok (.iconst 0, 1) := by decide +kernel
theorem d18_66 : decode method_3_code 66 = .ok (.bastore, 1) := by decide +kernel
theorem d18_67 : decode method_3_code 67 = .ok (.aload_n 1, 1) := by decide +kernel
theorem d18_68 : decode method_3_code 68 = .ok (.iconst 2, 1) := by decide +kernel
theorem d18_69 : decode method_3_code 69 = .ok (.iconst 0, 1) := by decide +kernel
theorem d18_70 : decode method_3_code 70 = .ok (.bastore, 1) := by decide +kernel
theorem d18_71 : decode method_3_code 71 = .ok (.aload_n 1, 1) := by decide +kernel
theorem d18_72 : decode method_3_code 72 = .ok (.iconst 3, 1) := by decide +kernel
theorem d18_73 : decode method_3_code 73 = .ok (.iconst 0, 1) := by decide +kernel
theorem d18_74 : decode method_3_code 74 = .ok (.bastore, 1) := by decide +kernel
theorem d18_75 : decode method_3_code 75 = .ok (.aload_n 1, 1) := by decide +kernel
theorem d18_76 : decode method_3_code 76 = .ok (.iload 4, 2) := by decide +kernel
theorem d18_78 : decode method_3_code 78 = .ok (.iconst 1, 1) := by decide +kernel
theorem d18_79 : decode method_3_code 79 = .ok (.bastore, 1) := by decide +kernel
theorem d18_80 : decode method_3_code 80 = .ok (.goto 34, 3) := by decide +kernel
theorem d18_83 : decode method_3_code 83 = .ok (.iload 5, 2) := by decide +kernel
theorem d18_85 : decode method_3_code 85 = .ok (.iconst 2, 1) := by decide +kernel
theorem d18_86 : decode method_3_code 86 = .ok (.if_icmp .ne 28, 3) := by decide +kernel
theorem d18_89 : decode method_3_code 89 = .ok (.iload 4, 2) := by decide +kernel
theorem d18_91 : decode method_3_code 91 = .ok (.iconst 1, 1) := by decide +kernel
theorem d18_92 : decode method_3_code 92 = .ok (.iand, 1) := by decide +kernel
theorem d18_93 : decode method_3_code 93 = .ok (.istore 6, 2) := by decide +kernel
theorem d18_95 : decode method_3_code 95 = .ok (.aload_n 2, 1) := by decide +kernel
theorem d18_96 : decode method_3_code 96 = .ok (.iload 6, 2) := by decide +kernel
theorem d18_98 : decode method_3_code 98 = .ok (.baload, 1) := by decide +kernel
theorem d18_99 : decode method_3_code 99 = .ok (.ifCond .eq 15, 3) := by decide +kernel
theorem d18_102 : decode method_3_code 102 = .ok (.aload_n 0, 1) := by decide +kernel
theorem d18_103 : decode method_3_code 103 = .ok (.iconst 1, 1) := by decide +kernel
theorem d18_104 : decode method_3_code 104 = .ok (.iload 6, 2) := by decide +kernel
theorem d18_106 : decode method_3_code 106 = .ok (.invokevirtual 38, 3) := by decide +kernel
theorem d18_109 : decode method_3_code 109 = .ok (.aload_n 2, 1) := by decide +kernel
theorem d18_110 : decode method_3_code 110 = .ok (.iload 6, 2) := by decide +kernel
theorem d18_112 : decode method_3_code 112 = .ok (.iconst 0, 1) := by decide +kernel
theorem d18_113 : decode method_3_code 113 = .ok (.bastore, 1) := by decide +kernel
theorem d18_114 : decode method_3_code 114 = .ok (.return_, 1) := by decide +kernel
theorem d19_0 : decode prog_5_method_7_code 0 = .ok (.aload_n 0, 1) := by decide +kernel
theorem d19_1 : decode prog_5_method_7_code 1 = .ok (.getfield 28, 3) := by decide +kernel
theorem d19_4 : decode prog_5_method_7_code 4 = .ok (.iload_n 1, 1) := by decide +kernel
theorem d19_5 : decode prog_5_method_7_code 5 = .ok (.iaload, 1) := by decide +kernel
theorem d19_6 : decode prog_5_method_7_code 6 = .ok (.iconst 1, 1) := by decide +kernel
theorem d19_7 : decode prog_5_method_7_code 7 = .ok (.isub, 1) := by decide +kernel
theorem d19_8 : decode prog_5_method_7_code 8 = .ok (.istore_n 3, 1) := by decide +kernel
theorem d19_9 : decode prog_5_method_7_code 9 = .ok (.aload_n 0, 1) := by decide +kernel
theorem d19_10 : decode prog_5_method_7_code 10 = .ok (.iload_n 1, 1) := by decide +kernel
theorem d19_11 : decode prog_5_method_7_code 11 = .ok (.aload_n 0, 1) := by decide +kernel
theorem d19_12 : decode prog_5_method_7_code 12 = .ok (.getfield 25, 3) := by decide +kernel
theorem d19_15 : decode prog_5_method_7_code 15 = .ok (.iload_n 1, 1) := by decide +kernel
theorem d19_16 : decode prog_5_method_7_code 16 = .ok (.aaload, 1) := by decide +kernel
theorem d19_17 : decode prog_5_method_7_code 17 = .ok (.iload_n 2, 1) := by decide +kernel
theorem d19_18 : decode prog_5_method_7_code 18 = .ok (.iaload, 1) := by decide +kernel
theorem d19_19 : decode prog_5_method_7_code 19 = .ok (.iload_n 3, 1) := by decide +kernel
theorem d19_20 : decode prog_5_method_7_code 20 = .ok (.invokevirtual 51, 3) := by decide +kernel
theorem d19_23 : decode prog_5_method_7_code 23 = .ok (.aload_n 0, 1) := by decide +kernel
theorem d19_24 : decode prog_5_method_7_code 24 = .ok (.getfield 28, 3) := by decide +kernel
theorem d19_27 : decode prog_5_method_7_code 27 = .ok (.iload_n 1, 1) := by decide +kernel
theorem d19_28 : decode prog_5_method_7_code 28 = .ok (.iload_n 3, 1) := by decide +kernel
theorem d19_29 : decode prog_5_method_7_code 29 = .ok (.iastore, 1) := by decide +kernel
theorem d19_30 : decode prog_5_method_7_code 30 = .ok (.return_, 1) := by decide +kernel
theorem d20_0 : decode prog_5_method_14_code 0 = .ok (.aload_n 0, 1) := by decide +kernel
theorem d20_1 : decode prog_5_method_14_code 1 = .ok (.getfield 21, 3) := by decide +kernel
theorem d20_4 : decode prog_5_method_14_code 4 = .ok (.iload_n 1, 1) := by decide +kernel
theorem d20_5 : decode prog_5_method_14_code 5 = .ok (.aaload, 1) := by decide +kernel
theorem d20_6 : decode prog_5_method_14_code 6 = .ok (.astore 4, 2) := by decide +kernel
theorem d20_8 : decode prog_5_method_14_code 8 = .ok (.aload 4, 2) := by decide +kernel
theorem d20_10 : decode prog_5_method_14_code 10 = .ok (.iload_n 2, 1) := by decide +kernel
theorem d20_11 : decode prog_5_method_14_code 11 = .ok (.iaload, 1) := by decide +kernel
theorem d20_12 : decode prog_5_method_14_code 12 = .ok (.istore 5, 2) := by decide +kernel
theorem d20_14 : decode prog_5_method_14_code 14 = .ok (.aload 4, 2) := by decide +kernel
theorem d20_16 : decode prog_5_method_14_code 16 = .ok (.iload_n 2, 1) := by decide +kernel
theorem d20_17 : decode prog_5_method_14_code 17 = .ok (.aload 4, 2) := by decide +kernel
theorem d20_19 : decode prog_5_method_14_code 19 = .ok (.iload_n 3, 1) := by decide +kernel
theorem d20_20 : decode prog_5_method_14_code 20 = .ok (.iaload, 1) := by decide +kernel
theorem d20_21 : decode prog_5_method_14_code 21 = .ok (.iastore, 1) := by decide +kernel
theorem d20_22 : decode prog_5_method_14_code 22 = .ok (.aload 4, 2) := by decide +kernel
theorem d20_24 : decode prog_5_method_14_code 24 = .ok (.iload_n 3, 1) := by decide +kernel
theorem d20_25 : decode prog_5_method_14_code 25 = .ok (.iload 5, 2) := by decide +kernel
theorem d20_27 : decode prog_5_method_14_code 27 = .ok (.iastore, 1) := by decide +kernel
theorem d20_28 : decode prog_5_method_14_code 28 = .ok (.aload_n 0, 1) := by decide +kernel
theorem d20_29 : decode prog_5_method_14_code 29 = .ok (.getfield 25, 3) := by decide +kernel
theorem d20_32 : decode prog_5_method_14_code 32 = .ok (.iload_n 1, 1) := by decide +kernel
theorem d20_33 : decode prog_5_method_14_code 33 = .ok (.aaload, 1) := by decide +kernel
theorem d20_34 : decode prog_5_method_14_code 34 = .ok (.aload 4, 2) := by decide +kernel
theorem d20_36 : decode prog_5_method_14_code 36 = .ok (.iload_n 2, 1) := by decide +kernel
theorem d20_37 : decode prog_5_method_14_code 37 = .ok (.iaload, 1) := by decide +kernel
theorem d20_38 : decode prog_5_method_14_code 38 = .ok (.iload_n 2, 1) := by decide +kernel
theorem d20_39 : decode prog_5_method_14_code 39 = .ok (.iastore, 1) := by decide +kernel
theorem d20_40 : decode prog_5_method_14_code 40 = .ok (.aload_n 0, 1) := by decide +kernel
theorem d20_41 : decode prog_5_method_14_code 41 = .ok (.getfield 25, 3) := by decide +kernel
theorem d20_44 : decode prog_5_method_14_code 44 = .ok (.iload_n 1, 1) := by decide +kernel
theorem d20_45 : decode prog_5_method_14_code 45 = .ok (.aaload, 1) := by decide +kernel
theorem d20_46 : decode prog_5_method_14_code 46 = .ok (.iload 5, 2) := by decide +kernel
theorem d20_48 : decode prog_5_method_14_code 48 = .ok (.iload_n 3, 1) := by decide +kernel
theorem d20_49 : decode prog_5_method_14_code 49 = .ok (.iastore, 1) := by decide +kernel
theorem d20_50 : decode prog_5_method_14_code 50 = .ok (.return_, 1) := by decide +kernel
theorem d21_0 : decode prog_5_method_5_code 0 = .ok (.aload_n 0, 1) := by decide +kernel
theorem d21_1 : decode prog_5_method_5_code 1 = .ok (.getfield 25, 3) := by decide +kernel
theorem d21_4 : decode prog_5_method_5_code 4 = .ok (.iload_n 1, 1) := by decide +kernel
theorem d21_5 : decode prog_5_method_5_code 5 = .ok (.aaload, 1) := by decide +kernel
theorem d21_6 : decode prog_5_method_5_code 6 = .ok (.iload_n 2, 1) := by decide +kernel
theorem d21_7 : decode prog_5_method_5_code 7 = .ok (.iaload, 1) := by decide +kernel
theorem d21_8 : decode prog_5_method_5_code 8 = .ok (.aload_n 0, 1) := by decide +kernel
theorem d21_9 : decode prog_5_method_5_code 9 = .ok (.getfield 28, 3) := by decide +kernel
theorem d21_12 : decode prog_5_method_5_code 12 = .ok (.iload_n 1, 1) := by decide +kernel
theorem d21_13 : decode prog_5_method_5_code 13 = .ok (.iaload, 1) := by decide +kernel
theorem d21_14 : decode prog_5_method_5_code 14 = .ok (.if_icmp .ge 7, 3) := by decide +kernel
theorem d21_17 : decode prog_5_method_5_code 17 = .ok (.iconst 1, 1) := by decide +kernel
theorem d21_18 : decode prog_5_method_5_code 18 = .ok (.goto 4, 3) := by decide +kernel
theorem d21_21 : decode prog_5_method_5_code 21 = .ok (.iconst 0, 1) := by decide +kernel
theorem d21_22 : decode prog_5_method_5_code 22 = .ok (.ireturn, 1) := by decide +kernel
theorem d22_0 : decode prog_5_method_8_code 0 = .ok (.aload_n 0, 1) := by decide +kernel
theorem d22_1 : decode prog_5_method_8_code 1 = .ok (.iload_n 1, 1) := by decide +kernel
theorem d22_2 : decode prog_5_method_8_code 2 = .ok (.aload_n 0, 1) := by decide +kernel
theorem d22_3 : decode prog_5_method_8_code 3 = .ok (.getfield 25, 3) := by decide +kernel
theorem d22_6 : decode prog_5_method_8_code 6 = .ok (.iload_n 1, 1) := by decide +kernel
theorem d22_7 : decode prog_5_method_8_code 7 = .ok (.aaload, 1) := by decide +kernel
theorem d22_8 : decode prog_5_method_8_code 8 = .ok (.iload_n 2, 1) := by decide +kernel
theorem d22_9 : decode prog_5_method_8_code 9 = .ok (.iaload, 1) := by decide +kernel
theorem d22_10 : decode prog_5_method_8_code 10 = .ok (.iconst 0, 1) := by decide +kernel
theorem d22_11 : decode prog_5_method_8_code 11 = .ok (.invokevirtual 51, 3) := by decide +kernel
theorem d22_14 : decode prog_5_method_8_code 14 = .ok (.aload_n 0, 1) := by decide +kernel
theorem d22_15 : decode prog_5_method_8_code 15 = .ok (.getfield 28, 3) := by decide +kernel
theorem d22_18 : decode prog_5_method_8_code 18 = .ok (.iload_n 1, 1) := by decide +kernel
theorem d22_19 : decode prog_5_method_8_code 19 = .ok (.iconst 1, 1) := by decide +kernel
theorem d22_20 : decode prog_5_method_8_code 20 = .ok (.iastore, 1) := by decide +kernel
theorem d22_21 : decode prog_5_method_8_code 21 = .ok (.return_, 1) := by decide +kernel
theorem pn_0 : plainName "java/util/AbstractCollection" = true := by first | (simp [plainName, overriddenIn]; done) | decide +kernel
theorem pn_1 : plainName "java/util/AbstractList" = true := by first | (simp [plainName, overriddenIn]; done) | decide +kernel
theorem pn_2 : plainName "java/util/ArrayList" = true := by first | (simp [plainName, overriddenIn]; done) | decide +kernel
theorem pn_3 : plainName "com/example/ludarc/ludarc/engine/Variable" = true := by first | (simp [plainName, overriddenIn]; done) | decide +kernel
theorem pn_4 : plainName "jdk/internal/util/Preconditions" = true := by first | (simp [plainName, overriddenIn]; done) | decide +kernel
theorem pn_5 : plainName "java/util/Objects" = true := by first | (simp [plainName, overriddenIn]; done) | decide +kernel
theorem pn_6 : plainName "com/example/ludarc/ludarc/engine/Domains" = true := by first | (simp [plainName, overriddenIn]; done) | decide +kernel
theorem pn_7 : plainName "com/example/ludarc/ludarc/engine/DomainsContainsPinLaw" = true := by first | (simp [plainName, overriddenIn]; done) | decide +kernel
theorem pd_0 : parseMethodDescriptor "()V" = some ⟨[], none⟩ := by decide +kernel
theorem pd_1 : parseMethodDescriptor "(II)I" = some ⟨[.int, .int], some .int⟩ := by decide +kernel
theorem pd_2 : parseMethodDescriptor "(I)[Ljava/lang/Object;" = some ⟨[.int], some (.array (.object "java/lang/Object"))⟩ := by decide +kernel
theorem pd_3 : parseMethodDescriptor "()[Ljava/lang/Object;" = some ⟨[], some (.array (.object "java/lang/Object"))⟩ := by decide +kernel
theorem pd_4 : parseMethodDescriptor "(Ljava/lang/Object;[Ljava/lang/Object;I)V" = some ⟨[(.object "java/lang/Object"), (.array (.object "java/lang/Object")), .int], none⟩ := by decide +kernel
theorem pd_5 : parseMethodDescriptor "(IILjava/util/function/BiFunction;)I" = some ⟨[.int, .int, (.object "java/util/function/BiFunction")], some .int⟩ := by decide +kernel
theorem pd_6 : parseMethodDescriptor "(I)Ljava/lang/Object;" = some ⟨[.int], some (.object "java/lang/Object")⟩ := by decide +kernel
theorem pd_7 : parseMethodDescriptor "()I" = some ⟨[], some .int⟩ := by decide +kernel
theorem pd_8 : parseMethodDescriptor "(III)V" = some ⟨[.int, .int, .int], none⟩ := by decide +kernel
theorem pd_9 : parseMethodDescriptor "(II)V" = some ⟨[.int, .int], none⟩ := by decide +kernel
theorem pd_10 : parseMethodDescriptor "(Lcom/example/ludarc/ludarc/engine/Network$Builder;ILjava/lang/String;[I[D)V" = some ⟨[(.object "com/example/ludarc/ludarc/engine/Network$Builder"), .int, (.object "java/lang/String"), (.array .int), (.array .double)], none⟩ := by decide +kernel
theorem pd_11 : parseMethodDescriptor "(Ljava/lang/Object;)Z" = some ⟨[(.object "java/lang/Object")], some .boolean⟩ := by decide +kernel
theorem pd_12 : parseMethodDescriptor "(Ljava/util/List;)V" = some ⟨[(.object "java/util/List")], none⟩ := by decide +kernel
theorem pd_13 : parseMethodDescriptor "(Lcom/example/ludarc/ludarc/engine/Domains;[Z[ZI)V" = some ⟨[(.object "com/example/ludarc/ludarc/engine/Domains"), (.array .boolean), (.array .boolean), .int], none⟩ := by decide +kernel
theorem pd_14 : parseMethodDescriptor "(II)Z" = some ⟨[.int, .int], some .boolean⟩ := by decide +kernel
theorem ef_rm3 (m : MethodId) (x0 : Addr) : entryFrame m #[(.ref x0)] 1 = mkF m 0 #[.val (.ref x0)] [] := by first | (simp [entryFrame, mkF, argsToLocals, Value.category]; done) | rfl
theorem ef_rm2 (m : MethodId) (x0 : Addr) : entryFrame m #[(.ref x0)] 1 = mkF m 0 #[.val (.ref x0)] [] := by first | (simp [entryFrame, mkF, argsToLocals, Value.category]; done) | rfl
theorem ef_rm1 (m : MethodId) (x0 : Addr) : entryFrame m #[(.ref x0)] 1 = mkF m 0 #[.val (.ref x0)] [] := by first | (simp [entryFrame, mkF, argsToLocals, Value.category]; done) | rfl
theorem ef_rm5 (m : MethodId) (x0 : Addr) (x2 : Int32) (x3 : Addr) (x4 : Addr) : entryFrame m #[(.ref x0), .null, (.int x2), (.ref x3), (.ref x4), .null] 6 = mkF m 0 #[.val (.ref x0), .val .null, .val (.int x2), .val (.ref x3), .val (.ref x4), .val .null] [] := by first | (simp [entryFrame, mkF, argsToLocals, Value.category]; done) | rfl
theorem ef_rm17 (m : MethodId) (x0 : Addr) : entryFrame m #[(.ref x0)] 1 = mkF m 0 #[.val (.ref x0)] [] := by first | (simp [entryFrame, mkF, argsToLocals, Value.category]; done) | rfl
theorem ef_rm10 (m : MethodId) (x0 : Int32) (x1 : Int32) : entryFrame m #[(.int x0), (.int x1)] 2 = mkF m 0 #[.val (.int x0), .val (.int x1)] [] := by first | (simp [entryFrame, mkF, argsToLocals, Value.category]; done) | rfl
theorem ef_rm9 (m : MethodId) (x0 : Addr) (x1 : Int32) : entryFrame m #[(.ref x0), (.int x1)] 4 = mkF m 0 #[.val (.ref x0), .val (.int x1), .unset, .unset] [] := by first | (simp [entryFrame, mkF, argsToLocals, Value.category]; done) | rfl
theorem ef_rm8 (m : MethodId) (x0 : Addr) : entryFrame m #[(.ref x0)] 1 = mkF m 0 #[.val (.ref x0)] [] := by first | (simp [entryFrame, mkF, argsToLocals, Value.category]; done) | rfl
theorem ef_rmA3a (m : MethodId) (x0 : Addr) (x1 : Addr) (x2 : Addr) (x3 : Int32) : entryFrame m #[(.ref x0), (.ref x1), (.ref x2), (.int x3)] 4 = mkF m 0 #[.val (.ref x0), .val (.ref x1), .val (.ref x2), .val (.int x3)] [] := by first | (simp [entryFrame, mkF, argsToLocals, Value.category]; done) | rfl
theorem ef_rmA3b (m : MethodId) (x0 : Addr) (x1 : Addr) (x2 : Addr) (x3 : Int32) : entryFrame m #[(.ref x0), (.ref x1), (.ref x2), (.int x3)] 4 = mkF m 0 #[.val (.ref x0), .val (.ref x1), .val (.ref x2), .val (.int x3)] [] := by first | (simp [entryFrame, mkF, argsToLocals, Value.category]; done) | rfl
theorem ef_rmA1a (m : MethodId) (x0 : Addr) (x1 : Addr) : entryFrame m #[(.ref x0), (.ref x1)] 2 = mkF m 0 #[.val (.ref x0), .val (.ref x1)] [] := by first | (simp [entryFrame, mkF, argsToLocals, Value.category]; done) | rfl
theorem ef_rmA1b (m : MethodId) (x0 : Addr) (x1 : Addr) : entryFrame m #[(.ref x0), (.ref x1)] 2 = mkF m 0 #[.val (.ref x0), .val (.ref x1)] [] := by first | (simp [entryFrame, mkF, argsToLocals, Value.category]; done) | rfl
theorem ef_rm12 (m : MethodId) (x0 : Addr) : entryFrame m #[(.ref x0)] 1 = mkF m 0 #[.val (.ref x0)] [] := by first | (simp [entryFrame, mkF, argsToLocals, Value.category]; done) | rfl
theorem ef_rm15 (m : MethodId) (x0 : Int32) (x1 : Int32) : entryFrame m #[(.int x0), (.int x1), .null] 3 = mkF m 0 #[.val (.int x0), .val (.int x1), .val .null] [] := by first | (simp [entryFrame, mkF, argsToLocals, Value.category]; done) | rfl
theorem ef_rm14 (m : MethodId) (x0 : Int32) (x1 : Int32) : entryFrame m #[(.int x0), (.int x1)] 2 = mkF m 0 #[.val (.int x0), .val (.int x1)] [] := by first | (simp [entryFrame, mkF, argsToLocals, Value.category]; done) | rfl
theorem ef_rmED0 (m : MethodId) (x0 : Addr) (x1 : Int32) : entryFrame m #[(.ref x0), (.int x1)] 2 = mkF m 0 #[.val (.ref x0), .val (.int x1)] [] := by first | (simp [entryFrame, mkF, argsToLocals, Value.category]; done) | rfl
theorem ef_rmGT0 (m : MethodId) (x0 : Addr) (x1 : Int32) : entryFrame m #[(.ref x0), (.int x1)] 2 = mkF m 0 #[.val (.ref x0), .val (.int x1)] [] := by first | (simp [entryFrame, mkF, argsToLocals, Value.category]; done) | rfl
theorem ef_rmED1 (m : MethodId) (x0 : Addr) (x1 : Int32) : entryFrame m #[(.ref x0), (.int x1)] 2 = mkF m 0 #[.val (.ref x0), .val (.int x1)] [] := by first | (simp [entryFrame, mkF, argsToLocals, Value.category]; done) | rfl
theorem ef_rmGT1 (m : MethodId) (x0 : Addr) (x1 : Int32) : entryFrame m #[(.ref x0), (.int x1)] 2 = mkF m 0 #[.val (.ref x0), .val (.int x1)] [] := by first | (simp [entryFrame, mkF, argsToLocals, Value.category]; done) | rfl
theorem ef_rm11 (m : MethodId) (x0 : Addr) (x1 : Addr) : entryFrame m #[(.ref x0), (.ref x1)] 5 = mkF m 0 #[.val (.ref x0), .val (.ref x1), .unset, .unset, .unset] [] := by first | (simp [entryFrame, mkF, argsToLocals, Value.category]; done) | rfl
theorem ef_rmS0 (m : MethodId) (x0 : Addr) (x1 : Int32) (x2 : Int32) (x3 : Int32) : entryFrame m #[(.ref x0), (.int x1), (.int x2), (.int x3)] 6 = mkF m 0 #[.val (.ref x0), .val (.int x1), .val (.int x2), .val (.int x3), .unset, .unset] [] := by first | (simp [entryFrame, mkF, argsToLocals, Value.category]; done) | rfl
theorem ef_rmS1 (m : MethodId) (x0 : Addr) (x1 : Int32) (x2 : Int32) (x3 : Int32) : entryFrame m #[(.ref x0), (.int x1), (.int x2), (.int x3)] 6 = mkF m 0 #[.val (.ref x0), .val (.int x1), .val (.int x2), .val (.int x3), .unset, .unset] [] := by first | (simp [entryFrame, mkF, argsToLocals, Value.category]; done) | rfl
theorem ef_rmR0 (m : MethodId) (x0 : Addr) (x1 : Int32) (x2 : Int32) : entryFrame m #[(.ref x0), (.int x1), (.int x2)] 4 = mkF m 0 #[.val (.ref x0), .val (.int x1), .val (.int x2), .unset] [] := by first | (simp [entryFrame, mkF, argsToLocals, Value.category]; done) | rfl
theorem ef_rmA0 (m : MethodId) (x0 : Addr) (x1 : Int32) (x2 : Int32) : entryFrame m #[(.ref x0), (.int x1), (.int x2)] 3 = mkF m 0 #[.val (.ref x0), .val (.int x1), .val (.int x2)] [] := by first | (simp [entryFrame, mkF, argsToLocals, Value.category]; done) | rfl
theorem ef_rmC0_0 (m : MethodId) (x0 : Addr) (x1 : Int32) (x2 : Int32) : entryFrame m #[(.ref x0), (.int x1), (.int x2)] 3 = mkF m 0 #[.val (.ref x0), .val (.int x1), .val (.int x2)] [] := by first | (simp [entryFrame, mkF, argsToLocals, Value.category]; done) | rfl
theorem ef_rmC0_1 (m : MethodId) (x0 : Addr) (x1 : Int32) (x2 : Int32) : entryFrame m #[(.ref x0), (.int x1), (.int x2)] 3 = mkF m 0 #[.val (.ref x0), .val (.int x1), .val (.int x2)] [] := by first | (simp [entryFrame, mkF, argsToLocals, Value.category]; done) | rfl
theorem ef_rmC0_2 (m : MethodId) (x0 : Addr) (x1 : Int32) (x2 : Int32) : entryFrame m #[(.ref x0), (.int x1), (.int x2)] 3 = mkF m 0 #[.val (.ref x0), .val (.int x1), .val (.int x2)] [] := by first | (simp [entryFrame, mkF, argsToLocals, Value.category]; done) | rfl
theorem ef_rmC0_3 (m : MethodId) (x0 : Addr) (x1 : Int32) (x2 : Int32) : entryFrame m #[(.ref x0), (.int x1), (.int x2)] 3 = mkF m 0 #[.val (.ref x0), .val (.int x1), .val (.int x2)] [] := by first | (simp [entryFrame, mkF, argsToLocals, Value.category]; done) | rfl
theorem ef_rmR1 (m : MethodId) (x0 : Addr) (x1 : Int32) (x2 : Int32) : entryFrame m #[(.ref x0), (.int x1), (.int x2)] 4 = mkF m 0 #[.val (.ref x0), .val (.int x1), .val (.int x2), .unset] [] := by first | (simp [entryFrame, mkF, argsToLocals, Value.category]; done) | rfl
theorem ef_rmC1_0 (m : MethodId) (x0 : Addr) (x1 : Int32) (x2 : Int32) : entryFrame m #[(.ref x0), (.int x1), (.int x2)] 3 = mkF m 0 #[.val (.ref x0), .val (.int x1), .val (.int x2)] [] := by first | (simp [entryFrame, mkF, argsToLocals, Value.category]; done) | rfl
theorem ef_rmC1_1 (m : MethodId) (x0 : Addr) (x1 : Int32) (x2 : Int32) : entryFrame m #[(.ref x0), (.int x1), (.int x2)] 3 = mkF m 0 #[.val (.ref x0), .val (.int x1), .val (.int x2)] [] := by first | (simp [entryFrame, mkF, argsToLocals, Value.category]; done) | rfl
theorem ef_rmST (m : MethodId) (x0 : Addr) (x1 : Addr) (x2 : Addr) (x3 : Int32) : entryFrame m #[(.ref x0), (.ref x1), (.ref x2), (.int x3)] 7 = mkF m 0 #[.val (.ref x0), .val (.ref x1), .val (.ref x2), .val (.int x3), .unset, .unset, .unset] [] := by first | (simp [entryFrame, mkF, argsToLocals, Value.category]; done) | rfl
theorem ef_rm0 (m : MethodId) (x0 : Int32) (x1 : Int32) (x2 : Int32) : entryFrame m #[(.int x0), (.int x1), (.int x2)] maxLocals = mkF m 0 #[.val (.int x0), .val (.int x1), .val (.int x2), .unset, .unset, .unset, .unset] [] := by first | (simp [entryFrame, mkF, argsToLocals, Value.category, maxLocals]; done) | rfl
def Qn (h0 : Heap) (n0 : Nat) (v : Option Value) (h : Heap) (L : List Loc) : Prop := v = none ∧ Fr n0 L ∧ h = h0
def Qr (r : Value) (h0 : Heap) (n0 : Nat) (v : Option Value) (h : Heap) (L : List Loc) : Prop := v = some r ∧ Fr n0 L ∧ h = h0
theorem own_eqI {args : Array Value} {s : State} {t : Term} {k : Int32} (h : (Jvm.Cond.eq t (.int k)).value args s none s [] = some true) : t.eval args s none [] s = some (.int k) := by
  simp only [Cond.value, Term.eval] at h
  cases ht : t.eval args s none [] s with
  | none => simp [ht] at h
  | some x => cases x <;> simp [ht] at h ⊢; exact h
theorem own_eqR {args : Array Value} {s : State} {t u : Term} {b : Addr} (h : (Jvm.Cond.eq t u).value args s none s [] = some true) (hu : u.eval args s none [] s = some (.ref b)) : t.eval args s none [] s = some (.ref b) := by
  simp only [Cond.value, hu] at h
  cases ht : t.eval args s none [] s with
  | none => simp [ht] at h
  | some x => cases x <;> simp [ht] at h ⊢; exact h
theorem own_arv {args : Array Value} {s : State} {t : Term} {a : Addr} {cl : Cell} {ty : FieldType} {z : Int32} (A : Arr s s.heap a cl ty) (ht : t.eval args s none [] s = some (.ref a)) (hl : (Term.length t).eval args s none [] s = some (.int z)) : cl.slots.size < 2 ^ 31 ∧ cl.slots.size.toInt32 = z := by
  obtain ⟨b, cell, e1, e2, h31, e3⟩ := Jvm.Lib.length_spec hl
  cases ht.symm.trans e1
  have e4 := A.fin (Vm.Alike.refl _)
  cases e4.symm.trans e2
  exact ⟨h31, (Value.int.inj e3).symm⟩
/-- an array of n places; place j holds g j -/
def Af (Z : State) (h : Heap) (a : Addr) (k : ClassId) (ty : FieldType) (n : Int32) (g : Nat → Value) : Prop := ∃ c : Cell, Arr Z h a c ty ∧ c.cls = k ∧ c.slots.size = n.toNatClampNeg ∧ ¬ n < 0 ∧ ∀ j, j < n.toNatClampNeg → c.slots[j]? = some (g j)
theorem Af.lt {Z : State} {h : Heap} {a : Addr} {k : ClassId} {ty : FieldType} {n : Int32} {g : Nat → Value} (F : Af Z h a k ty n g) : a < h.size := by obtain ⟨c, A, -⟩ := F; exact A.lt
theorem Af.ext {Z : State} {h h' : Heap} {a : Addr} {k : ClassId} {ty : FieldType} {n : Int32} {g : Nat → Value} (F : Af Z h a k ty n g) (E : Ext h h') : Af Z h' a k ty n g := by obtain ⟨c, A, r⟩ := F; exact ⟨c, A.ext E, r⟩
theorem Af.other {Z : State} {h h' : Heap} {a b : Addr} {sl : Nat} {v : Value} {k : ClassId} {ty : FieldType} {n : Int32} {g : Nat → Value} (F : Af Z h b k ty n g) (W : Wr h h' a sl v) (q : b ≠ a) : Af Z h' b k ty n g := by obtain ⟨c, A, r⟩ := F; exact ⟨c, A.other W q, r⟩
theorem Af.keep {Z : State} {h h' : Heap} {a : Addr} {ws : List Addr} {k : ClassId} {ty : FieldType} {n : Int32} {g : Nat → Value} (F : Af Z h a k ty n g) (K : Keep h h' ws) (q : a ∉ ws) : Af Z h' a k ty n g := by obtain ⟨c, A, r⟩ := F; exact ⟨c, ⟨K.2.1 a c A.1 q, A.2⟩, r⟩
theorem Af.of {Z : State} {h : Heap} {a : Addr} {k : ClassId} {ty : FieldType} {n : Int32} {vs : List Value} {d : Value} (F : Arv Z h a k ty n vs d) : Af Z h a k ty n (fun j => vs.getD j d) := by
  obtain ⟨c, A, q, S, M, H, -⟩ := F
  exact ⟨c, A, q, S, M, fun j hj => H j (by rw [S]; exact hj)⟩
theorem Af.set {Z : State} {h h' : Heap} {a : Addr} {c : Cell} {k : ClassId} {ty : FieldType} {n j : Int32} {v : Value} {g : Nat → Value} (A : Arr Z h a c ty) (q : c.cls = k) (S : c.slots.size = n.toNatClampNeg) (M : ¬ n < 0) (H : ∀ j, j < n.toNatClampNeg → c.slots[j]? = some (g j)) (W : Wr h h' a j.toNatClampNeg v) (hj : ¬ (j < 0 ∨ c.slots.size ≤ j.toNatClampNeg)) : Af Z h' a k ty n (fun i => if i = j.toNatClampNeg then v else g i) := by
  refine ⟨_, A.same W, q, (sz_set _ _ _).trans S, M, fun i hi => ?_⟩
  by_cases e : i = j.toNatClampNeg
  · subst e
    have hl : j.toNatClampNeg < c.slots.size := Nat.lt_of_not_le fun y => hj (Or.inr y)
    simp [Cell.setSlot, hl]
  · simp only [e, if_false]
    rw [← H i hi]
    simp [Cell.setSlot, Array.getElem?_setIfInBounds, Ne.symm e]
theorem Af.fn {Z : State} {h : Heap} {a : Addr} {k : ClassId} {ty : FieldType} {n : Int32} {g g' : Nat → Value} (F : Af Z h a k ty n g) (e : ∀ j, j < n.toNatClampNeg → g j = g' j) : Af Z h a k ty n g' := by
  obtain ⟨c, A, q, S, M, H⟩ := F
  exact ⟨c, A, q, S, M, fun j hj => (H j hj).trans (congrArg some (e j hj))⟩
set_option maxRecDepth 65536 in
set_option maxHeartbeats 40000000 in
theorem rm3 (l : Launch) (Z : State) (a0 : Array Value) (hw : ∀ d ∈ tables_1, d.before a0 Z = true) (ws : List Jvm.Cond) (a : Addr) (h0 : Heap) (n0 : Nat) (Z0 : n0 ≤ h0.size) :
    MetFree l (⟨"java/util/AbstractCollection", "<init>", "()V"⟩ : MethodName) (head1 (Jvm.Cond.code (⟨"java/util/AbstractCollection", "<init>", "()V"⟩ : MethodName) jdk_22_method_1_code 1 none :: ws) ({ frames := 1, cells := 0, slots := 0, locals := 12 } : Room)) (fun aa UU => aa = #[(.ref a)] ∧ Z.Warmed39 UU.vm ∧ UU.heap = h0) (fun _ _ _ _ _ => True) (fun _ UU oo U' => ∃ v L, oo = .returned v ∧ Qn h0 n0 v U'.heap L ∧ FrameEnd UU oo U' L ({ frames := 1, cells := 0, slots := 0, locals := 12 } : Room).cells ({ frames := 1, cells := 0, slots := 0, locals := 12 } : Room).slots) := by
  refine MetFree.of_bodySF (plainFor_of_name pn_0) hisR ?_
  intro p e s m args below meth c s₁ Bd hml0 hP hK
  obtain ⟨rfl, hZ, hh⟩ := hP
  have hx := Bd.exec
  have hby := Bd.bytes
  have hml : c.maxLocals = 1 := hml0
  have hown : s.vm.findClass "java/util/AbstractCollection" = some m.cls := findClass_of_methodNamed Bd.named
  have hnm := (name_of_methodNamed Bd.named Bd.method).1
  have X0 : Stand p l e ({ frames := 1, cells := 0, slots := 0, locals := 12 } : Room) s m #[(.ref a)] below meth c s₁ [] 0 0 := Stand.of_body Bd
  have e0 : s₁.heap = h0 := by rw [← hh, Bd.state]; rfl
  have N0 := Fr.nil n0
  obtain ⟨A0, hA0⟩ : ∃ A, A = s₁.setTop (entryFrame m #[(.ref a)] 1) := ⟨_, rfl⟩
  have G0 : Go p e below A0 (s₁.setTop (mkF m 0 #[.val (.ref a)] [])) := fun tq kq => by rw [hA0]; exact castTop (ef_rm3 m a) kq
  have G1 : Go p e below A0 (s₁.setTop (mkF m 1 #[.val (.ref a)] [(.ref a)])) := fun tq kq => G0 tq (by
    refine XS.aloadN X0.here hx rfl (hb hby d3_0) rfl rfl ?_
    show Steps p.tables e below (s₁.setTop (mkF m 1 #[.val (.ref a)] [(.ref a)])) _
    exact kq)
  obtain ⟨T2, X2, e2, st2⟩ := initO X0 hx hZ hown (hw _ (List.mem_of_getElem? (i := 18) rfl)) (hw _ (List.mem_of_getElem? (i := 19) rfl)) (hw _ (List.mem_of_getElem? (i := 20) rfl)) e0 (g := (mkF m 1 #[.val (.ref a)] [(.ref a)])) rfl (by rw [hml]; rfl) rfl (hb hby d3_1) (by decide) (W := 0) (by show 2 * 0 + _ ≤ _; exact Nat.le_of_eq rfl) (by decide)
  have G3 : Go p e below A0 (T2.setTop (mkF m 4 #[.val (.ref a)] [])) := fun tq kq => G1 tq (st2 _ kq)
  obtain ⟨fs, hr, hrun, hended, hW, hsame⟩ := X2.leave (v := none) (fun _ => rfl)
  refine ⟨_, _, (by rw [← hA0]; exact G3 _ (X2.returnOut hx Bd.returns (hb hby d3_4) hr)), hrun, hended, _, _, rfl, ?_, ⟨_, rfl⟩, hW, hsame.mono (by decide) (by decide)⟩
  exact ⟨rfl, N0, e2⟩
def Qal (Z : State) (a : Addr) (r : Option Value) (mc : Int32) (ed : Value) (sz : Int32) (h0 : Heap) (n0 : Nat) (v : Option Value) (h : Heap) (L : List Loc) : Prop := v = r ∧ Fr n0 L ∧ Keep h0 h [a] ∧ Fld Z h a "java/util/AbstractList" "modCount" "I" (.int mc) ∧ Fld Z h a "java/util/ArrayList" "elementData" "[Ljava/lang/Object;" ed ∧ Fld Z h a "java/util/ArrayList" "size" "I" (.int sz)
set_option maxRecDepth 65536 in
set_option maxHeartbeats 40000000 in
theorem rm2 (l : Launch) (Z : State) (a0 : Array Value) (hw : ∀ d ∈ tables_1, d.before a0 Z = true) (ws : List Jvm.Cond) (a : Addr) (h0 : Heap) (n0 : Nat) (Z0 : n0 ≤ h0.size) (E : Exa Z h0 a "java/util/ArrayList") (ga : n0 ≤ a) (F0 : Fld Z h0 a "java/util/AbstractList" "modCount" "I" (.int (0 : Int32))) (F1 : Fld Z h0 a "java/util/ArrayList" "elementData" "[Ljava/lang/Object;" .null) (F2 : Fld Z h0 a "java/util/ArrayList" "size" "I" (.int (0 : Int32))) :
    MetFree l (⟨"java/util/AbstractList", "<init>", "()V"⟩ : MethodName) (head1 (Jvm.Cond.code (⟨"java/util/AbstractList", "<init>", "()V"⟩ : MethodName) jdk_39_method_1_code 1 none :: ws) ({ frames := 2, cells := 0, slots := 0, locals := 24 } : Room)) (fun aa UU => aa = #[(.ref a)] ∧ Z.Warmed39 UU.vm ∧ UU.heap = h0) (fun _ _ _ _ _ => True) (fun _ UU oo U' => ∃ v L, oo = .returned v ∧ Qal Z a none (0 : Int32) .null (0 : Int32) h0 n0 v U'.heap L ∧ FrameEnd UU oo U' L ({ frames := 2, cells := 0, slots := 0, locals := 24 } : Room).cells ({ frames := 2, cells := 0, slots := 0, locals := 24 } : Room).slots) := by
  refine MetFree.of_bodySF (plainFor_of_name pn_1) hisR ?_
  intro p e s m args below meth c s₁ Bd hml0 hP hK
  obtain ⟨rfl, hZ, hh⟩ := hP
  have hx := Bd.exec
  have hby := Bd.bytes
  have hml : c.maxLocals = 1 := hml0
  have hown : s.vm.findClass "java/util/AbstractList" = some m.cls := findClass_of_methodNamed Bd.named
  have hnm := (name_of_methodNamed Bd.named Bd.method).1
  have X0 : Stand p l e ({ frames := 2, cells := 0, slots := 0, locals := 24 } : Room) s m #[(.ref a)] below meth c s₁ [] 0 0 := Stand.of_body Bd
  have e0 : s₁.heap = h0 := by rw [← hh, Bd.state]; rfl
  have N0 := Fr.nil n0
  obtain ⟨A0, hA0⟩ : ∃ A, A = s₁.setTop (entryFrame m #[(.ref a)] 1) := ⟨_, rfl⟩
  have G0 : Go p e below A0 (s₁.setTop (mkF m 0 #[.val (.ref a)] [])) := fun tq kq => by rw [hA0]; exact castTop (ef_rm2 m a) kq
  have G4 : Go p e below A0 (s₁.setTop (mkF m 1 #[.val (.ref a)] [(.ref a)])) := fun tq kq => G0 tq (by
    refine XS.aloadN X0.here hx rfl (hb hby d2_0) rfl rfl ?_
    show Steps p.tables e below (s₁.setTop (mkF m 1 #[.val (.ref a)] [(.ref a)])) _
    exact kq)
  obtain ⟨_, _, ⟨T5, L5, k5, n5⟩, -, X5, ⟨Lc5, hQ5, l5, y5, z5⟩, st5⟩ := X0.specialBack hx (y := (⟨"java/util/AbstractCollection", "<init>", "()V"⟩ : MethodName)) rfl hown (mvT hZ (hw _ (List.mem_of_getElem? (i := 12) rfl))) (mvT hZ (hw _ (List.mem_of_getElem? (i := 13) rfl))) (mvT hZ (hw _ (List.mem_of_getElem? (i := 17) rfl))) (by decide) (backOf (W := 0) (rm3 l Z a0 hw [] a h0 n0 Z0) hZ (hw _ (List.mem_of_getElem? (i := 17) rfl)) (hw _ (List.mem_of_getElem? (i := 16) rfl)) (by decide) (by decide)) (g := (mkF m 1 #[.val (.ref a)] [(.ref a)])) rfl (by rw [hml]; rfl) (Steps.refl _) (a := a) (argsL := []) (rest := []) (lenOf pd_0 rfl) rfl (by show 2 * 0 + _ ≤ _; exact Nat.le_of_eq rfl) (hb hby d2_1) (fun _ _ => ⟨rfl, e0, (by decide : 0 + 0 ≤ _), (by decide : 0 + 0 ≤ _)⟩)
  dsimp only [Pt.U, Pt.locs, Pt.cells, Pt.slots] at X5 l5 y5 z5 st5 hQ5
  obtain rfl : k5 = 0 := y5
  obtain rfl : n5 = 0 := z5
  obtain ⟨rfl, N5q, e5⟩ := hQ5
  have N5 : Fr n0 L5 := by rw [l5]; exact Fr.app N0 N5q
  have G6 : Go p e below A0 (T5.setTop (mkF m 4 #[.val (.ref a)] [])) := fun tq kq => G4 tq (st5.trans kq)
  have G7 : Go p e below A0 (T5.setTop (mkF m 6 #[.val (.ref a)] [(.int (0 : Int32)), (.ref a)])) := fun tq kq => G6 tq (by
    refine XS.aloadN X5.here hx rfl (hb hby d2_4) rfl rfl ?_
    show Steps p.tables e below (T5.setTop (mkF m 5 #[.val (.ref a)] [(.ref a)])) _
    refine XS.iconst X5.here hx rfl (hb hby d2_5) ?_
    show Steps p.tables e below (T5.setTop (mkF m 6 #[.val (.ref a)] [(.int (0 : Int32)), (.ref a)])) _
    exact kq)
  obtain ⟨T8, h8, X8, e8, W8, st8⟩ := putF X5 hx hZ hown (host := "") (Or.inl (hw _ (List.mem_of_getElem? (i := 21) rfl))) Via.refl e5 F0 E (Or.inl (hw _ (List.mem_of_getElem? (i := 22) rfl))) (hw _ (List.mem_of_getElem? (i := 1) rfl)) (ty := .int) (by decide) rfl rfl (g := (mkF m 6 #[.val (.ref a)] [(.int (0 : Int32)), (.ref a)])) rfl rfl (hb hby d2_6)
  have N8 := Fr.snoc X8 N5 ga
  have fw8 := F0.same W8
  have G9 : Go p e below A0 (T8.setTop (mkF m 9 #[.val (.ref a)] [])) := fun tq kq => G7 tq (st8 _ kq)
  have f10 := (F1.other W8 (Or.inr (slot_ne (Or.inl (hw _ (List.mem_of_getElem? (i := 25) rfl))) (Or.inl (hw _ (List.mem_of_getElem? (i := 22) rfl))) (by decide) (t := (.array (.object "java/lang/Object"))) (t' := .int) (by decide) (by decide))))
  have f11 := (F2.other W8 (Or.inr (slot_ne (Or.inl (hw _ (List.mem_of_getElem? (i := 60) rfl))) (Or.inl (hw _ (List.mem_of_getElem? (i := 22) rfl))) (by decide) (t := .int) (t' := .int) (by decide) (by decide))))
  obtain ⟨fs, hr, hrun, hended, hW, hsame⟩ := X8.leave (v := none) (fun _ => rfl)
  refine ⟨_, _, (by rw [← hA0]; exact G9 _ (X8.returnOut hx Bd.returns (hb hby d2_9) hr)), hrun, hended, _, _, rfl, ?_, ⟨_, rfl⟩, hW, hsame.mono (by decide) (by decide)⟩
  show Qal Z a none (0 : Int32) .null (0 : Int32) h0 n0 _ T8.heap _
  rw [e8]
  exact ⟨rfl, N8, ((Keep.refl h0 [a]).wr W8 (Or.inl (List.mem_of_getElem? (i := 0) rfl))), fw8, f10, f11⟩
set_option maxRecDepth 65536 in
set_option maxHeartbeats 40000000 in
theorem rm1 (l : Launch) (Z : State) (a0 : Array Value) (hw : ∀ d ∈ tables_1, d.before a0 Z = true) (ws : List Jvm.Cond) (a da : Addr) (h0 : Heap) (n0 : Nat) (Z0 : n0 ≤ h0.size) (E : Exa Z h0 a "java/util/ArrayList") (ga : n0 ≤ a) (F0 : Fld Z h0 a "java/util/AbstractList" "modCount" "I" (.int (0 : Int32))) (F1 : Fld Z h0 a "java/util/ArrayList" "elementData" "[Ljava/lang/Object;" .null) (F2 : Fld Z h0 a "java/util/ArrayList" "size" "I" (.int (0 : Int32))) (hold : Old Z n0 h0) (hSd : Sta Z Z.heap "java/util/ArrayList" "DEFAULTCAPACITY_EMPTY_ELEMENTDATA" "[Ljava/lang/Object;" (.ref da)) :
    MetFree l (⟨"java/util/ArrayList", "<init>", "()V"⟩ : MethodName) (head1 (Jvm.Cond.code (⟨"java/util/ArrayList", "<init>", "()V"⟩ : MethodName) jdk_38_method_2_code 1 none :: ws) ({ frames := 3, cells := 0, slots := 0, locals := 36 } : Room)) (fun aa UU => aa = #[(.ref a)] ∧ Z.Warmed39 UU.vm ∧ UU.heap = h0) (fun _ _ _ _ _ => True) (fun _ UU oo U' => ∃ v L, oo = .returned v ∧ Qal Z a none (0 : Int32) (.ref da) (0 : Int32) h0 n0 v U'.heap L ∧ FrameEnd UU oo U' L ({ frames := 3, cells := 0, slots := 0, locals := 36 } : Room).cells ({ frames := 3, cells := 0, slots := 0, locals := 36 } : Room).slots) := by
  refine MetFree.of_bodySF (plainFor_of_name pn_2) hisR ?_
  intro p e s m args below meth c s₁ Bd hml0 hP hK
  obtain ⟨rfl, hZ, hh⟩ := hP
  have hx := Bd.exec
  have hby := Bd.bytes
  have hml : c.maxLocals = 1 := hml0
  have hown : s.vm.findClass "java/util/ArrayList" = some m.cls := findClass_of_methodNamed Bd.named
  have hnm := (name_of_methodNamed Bd.named Bd.method).1
  have X0 : Stand p l e ({ frames := 3, cells := 0, slots := 0, locals := 36 } : Room) s m #[(.ref a)] below meth c s₁ [] 0 0 := Stand.of_body Bd
  have e0 : s₁.heap = h0 := by rw [← hh, Bd.state]; rfl
  have N0 := Fr.nil n0
  obtain ⟨A0, hA0⟩ : ∃ A, A = s₁.setTop (entryFrame m #[(.ref a)] 1) := ⟨_, rfl⟩
  have G0 : Go p e below A0 (s₁.setTop (mkF m 0 #[.val (.ref a)] [])) := fun tq kq => by rw [hA0]; exact castTop (ef_rm1 m a) kq
  have G12 : Go p e below A0 (s₁.setTop (mkF m 1 #[.val (.ref a)] [(.ref a)])) := fun tq kq => G0 tq (by
    refine XS.aloadN X0.here hx rfl (hb hby d1_0) rfl rfl ?_
    show Steps p.tables e below (s₁.setTop (mkF m 1 #[.val (.ref a)] [(.ref a)])) _
    exact kq)
  obtain ⟨_, _, ⟨T13, L13, k13, n13⟩, -, X13, ⟨Lc13, hQ13, l13, y13, z13⟩, st13⟩ := X0.specialBack hx (y := (⟨"java/util/AbstractList", "<init>", "()V"⟩ : MethodName)) rfl hown (mvT hZ (hw _ (List.mem_of_getElem? (i := 6) rfl))) (mvT hZ (hw _ (List.mem_of_getElem? (i := 7) rfl))) (mvT hZ (hw _ (List.mem_of_getElem? (i := 11) rfl))) (by decide) (backOf (W := 0) (rm2 l Z a0 hw [] a  h0 n0 Z0 E ga F0 F1 F2 ) hZ (hw _ (List.mem_of_getElem? (i := 11) rfl)) (hw _ (List.mem_of_getElem? (i := 10) rfl)) (by decide) (by decide)) (g := (mkF m 1 #[.val (.ref a)] [(.ref a)])) rfl (by rw [hml]; rfl) (Steps.refl _) (a := a) (argsL := []) (rest := []) (lenOf pd_0 rfl) rfl (by show 2 * 0 + _ ≤ _; exact Nat.le_of_eq rfl) (hb hby d1_1) (fun _ _ => ⟨rfl, e0, (by decide : 0 + 0 ≤ _), (by decide : 0 + 0 ≤ _)⟩)
  dsimp only [Pt.U, Pt.locs, Pt.cells, Pt.slots] at X13 l13 y13 z13 st13 hQ13
  obtain rfl : k13 = 0 := y13
  obtain rfl : n13 = 0 := z13
  obtain ⟨rfl, N13q, K13, Fx13_0, Fx13_1, Fx13_2⟩ := hQ13
  have N13 : Fr n0 L13 := by rw [l13]; exact Fr.app N0 N13q
  have G14 : Go p e below A0 (T13.setTop (mkF m 4 #[.val (.ref a)] [])) := fun tq kq => G12 tq (st13.trans kq)
  have G15 : Go p e below A0 (T13.setTop (mkF m 5 #[.val (.ref a)] [(.ref a)])) := fun tq kq => G14 tq (by
    refine XS.aloadN X13.here hx rfl (hb hby d1_4) rfl rfl ?_
    show Steps p.tables e below (T13.setTop (mkF m 5 #[.val (.ref a)] [(.ref a)])) _
    exact kq)
  obtain ⟨T16, X16, e16, st16⟩ := getS2 X13 hx hZ hown (host := "") (Or.inl (hw _ (List.mem_of_getElem? (i := 23) rfl))) Via.refl rfl (hSd.ext (hold.keep K13 (allS ga all0)).2) (g := (mkF m 5 #[.val (.ref a)] [(.ref a)])) rfl (hb hby d1_5)
  have G17 : Go p e below A0 (T16.setTop (mkF m 8 #[.val (.ref a)] [(.ref da), (.ref a)])) := fun tq kq => G15 tq (st16 _ kq)
  have f18 := (E.keep K13)
  obtain ⟨T19, h19, X19, e19, W19, st19⟩ := putF X16 hx hZ hown (host := "") (Or.inl (hw _ (List.mem_of_getElem? (i := 24) rfl))) Via.refl e16 Fx13_1 f18 (Or.inl (hw _ (List.mem_of_getElem? (i := 25) rfl))) (hw _ (List.mem_of_getElem? (i := 1) rfl)) (ty := (.array (.object "java/lang/Object"))) (by decide) rfl rfl (g := (mkF m 8 #[.val (.ref a)] [(.ref da), (.ref a)])) rfl rfl (hb hby d1_8)
  have N19 := Fr.snoc X19 N13 ga
  have fw19 := Fx13_1.same W19
  have G20 : Go p e below A0 (T19.setTop (mkF m 11 #[.val (.ref a)] [])) := fun tq kq => G17 tq (st19 _ kq)
  have f21 := (Fx13_0.other W19 (Or.inr (slot_ne (Or.inl (hw _ (List.mem_of_getElem? (i := 22) rfl))) (Or.inl (hw _ (List.mem_of_getElem? (i := 25) rfl))) (by decide) (t := .int) (t' := (.array (.object "java/lang/Object"))) (by decide) (by decide))))
  have f22 := (Fx13_2.other W19 (Or.inr (slot_ne (Or.inl (hw _ (List.mem_of_getElem? (i := 60) rfl))) (Or.inl (hw _ (List.mem_of_getElem? (i := 25) rfl))) (by decide) (t := .int) (t' := (.array (.object "java/lang/Object"))) (by decide) (by decide))))
  obtain ⟨fs, hr, hrun, hended, hW, hsame⟩ := X19.leave (v := none) (fun _ => rfl)
  refine ⟨_, _, (by rw [← hA0]; exact G20 _ (X19.returnOut hx Bd.returns (hb hby d1_11) hr)), hrun, hended, _, _, rfl, ?_, ⟨_, rfl⟩, hW, hsame.mono (by decide) (by decide)⟩
  show Qal Z a none (0 : Int32) (.ref da) (0 : Int32) h0 n0 _ T19.heap _
  rw [e19]
  exact ⟨rfl, N19, (((Keep.refl h0 [a]).trans K13 (allS (P := fun x => x ∈ [a] ∨ h0.size ≤ x) (Or.inl (List.mem_of_getElem? (i := 0) rfl)) all0)).wr W19 (Or.inl (List.mem_of_getElem? (i := 0) rfl))), f21, fw19, f22⟩
def Qv (Z : State) (a b : Addr) (h0 : Heap) (n0 : Nat) (v : Option Value) (h : Heap) (L : List Loc) : Prop := v = none ∧ Fr n0 L ∧ Keep h0 h [a] ∧ Fld Z h a "com/example/ludarc/ludarc/engine/Variable" "values" "[I" (.ref b)
set_option maxRecDepth 65536 in
set_option maxHeartbeats 40000000 in
theorem rm5 (l : Launch) (Z : State) (a0 : Array Value) (hw : ∀ d ∈ tables_1, d.before a0 Z = true) (ws : List Jvm.Cond) (a b nm : Addr) (i : Int32) (h0 : Heap) (n0 : Nat) (Z0 : n0 ≤ h0.size) (E : Exa Z h0 a "com/example/ludarc/ludarc/engine/Variable") (ga : n0 ≤ a) (F0 : Fld Z h0 a "com/example/ludarc/ludarc/engine/Variable" "owner" "Lcom/example/ludarc/ludarc/engine/Network$Builder;" .null) (F1 : Fld Z h0 a "com/example/ludarc/ludarc/engine/Variable" "index" "I" (.int (0 : Int32))) (F2 : Fld Z h0 a "com/example/ludarc/ludarc/engine/Variable" "name" "Ljava/lang/String;" .null) (F3 : Fld Z h0 a "com/example/ludarc/ludarc/engine/Variable" "values" "[I" .null) (F4 : Fld Z h0 a "com/example/ludarc/ludarc/engine/Variable" "probabilities" "[D" .null) :
    MetFree l (⟨"com/example/ludarc/ludarc/engine/Variable", "<init>", "(Lcom/example/ludarc/ludarc/engine/Network$Builder;ILjava/lang/String;[I[D)V"⟩ : MethodName) (head1 (Jvm.Cond.code (⟨"com/example/ludarc/ludarc/engine/Variable", "<init>", "(Lcom/example/ludarc/ludarc/engine/Network$Builder;ILjava/lang/String;[I[D)V"⟩ : MethodName) prog_18_method_1_code 6 none :: ws) ({ frames := 1, cells := 0, slots := 0, locals := 12 } : Room)) (fun aa UU => aa = #[(.ref a), .null, (.int i), (.ref nm), (.ref b), .null] ∧ Z.Warmed39 UU.vm ∧ UU.heap = h0) (fun _ _ _ _ _ => True) (fun _ UU oo U' => ∃ v L, oo = .returned v ∧ Qv Z a b h0 n0 v U'.heap L ∧ FrameEnd UU oo U' L ({ frames := 1, cells := 0, slots := 0, locals := 12 } : Room).cells ({ frames := 1, cells := 0, slots := 0, locals := 12 } : Room).slots) := by
  refine MetFree.of_bodySF (plainFor_of_name pn_3) hisR ?_
  intro p e s m args below meth c s₁ Bd hml0 hP hK
  obtain ⟨rfl, hZ, hh⟩ := hP
  have hx := Bd.exec
  have hby := Bd.bytes
  have hml : c.maxLocals = 6 := hml0
  have hown : s.vm.findClass "com/example/ludarc/ludarc/engine/Variable" = some m.cls := findClass_of_methodNamed Bd.named
  have hnm := (name_of_methodNamed Bd.named Bd.method).1
  have X0 : Stand p l e ({ frames := 1, cells := 0, slots := 0, locals := 12 } : Room) s m #[(.ref a), .null, (.int i), (.ref nm), (.ref b), .null] below meth c s₁ [] 0 0 := Stand.of_body Bd
  have e0 : s₁.heap = h0 := by rw [← hh, Bd.state]; rfl
  have N0 := Fr.nil n0
  obtain ⟨A0, hA0⟩ : ∃ A, A = s₁.setTop (entryFrame m #[(.ref a), .null, (.int i), (.ref nm), (.ref b), .null] 6) := ⟨_, rfl⟩
  have G0 : Go p e below A0 (s₁.setTop (mkF m 0 #[.val (.ref a), .val .null, .val (.int i), .val (.ref nm), .val (.ref b), .val .null] [])) := fun tq kq => by rw [hA0]; exact castTop (ef_rm5 m a i nm b) kq
  have G23 : Go p e below A0 (s₁.setTop (mkF m 1 #[.val (.ref a), .val .null, .val (.int i), .val (.ref nm), .val (.ref b), .val .null] [(.ref a)])) := fun tq kq => G0 tq (by
    refine XS.aloadN X0.here hx rfl (hb hby d5_0) rfl rfl ?_
    show Steps p.tables e below (s₁.setTop (mkF m 1 #[.val (.ref a), .val .null, .val (.int i), .val (.ref nm), .val (.ref b), .val .null] [(.ref a)])) _
    exact kq)
  obtain ⟨T24, X24, e24, st24⟩ := initO X0 hx hZ hown (hw _ (List.mem_of_getElem? (i := 41) rfl)) (hw _ (List.mem_of_getElem? (i := 19) rfl)) (hw _ (List.mem_of_getElem? (i := 20) rfl)) e0 (g := (mkF m 1 #[.val (.ref a), .val .null, .val (.int i), .val (.ref nm), .val (.ref b), .val .null] [(.ref a)])) rfl (by rw [hml]; rfl) rfl (hb hby d5_1) (by decide) (W := 0) (by show 2 * 0 + _ ≤ _; exact Nat.le_of_eq rfl) (by decide)
  have G25 : Go p e below A0 (T24.setTop (mkF m 4 #[.val (.ref a), .val .null, .val (.int i), .val (.ref nm), .val (.ref b), .val .null] [])) := fun tq kq => G23 tq (st24 _ kq)
  have G26 : Go p e below A0 (T24.setTop (mkF m 6 #[.val (.ref a), .val .null, .val (.int i), .val (.ref nm), .val (.ref b), .val .null] [.null, (.ref a)])) := fun tq kq => G25 tq (by
    refine XS.aloadN X24.here hx rfl (hb hby d5_4) rfl rfl ?_
    show Steps p.tables e below (T24.setTop (mkF m 5 #[.val (.ref a), .val .null, .val (.int i), .val (.ref nm), .val (.ref b), .val .null] [(.ref a)])) _
    refine XS.aloadN X24.here hx rfl (hb hby d5_5) rfl rfl ?_
    show Steps p.tables e below (T24.setTop (mkF m 6 #[.val (.ref a), .val .null, .val (.int i), .val (.ref nm), .val (.ref b), .val .null] [.null, (.ref a)])) _
    exact kq)
  obtain ⟨T27, h27, X27, e27, W27, st27⟩ := putF X24 hx hZ hown (host := "") (Or.inl (hw _ (List.mem_of_getElem? (i := 42) rfl))) Via.refl e24 F0 E (Or.inr ⟨(hw _ (List.mem_of_getElem? (i := 43) rfl)), rfl, hnm⟩) (hw _ (List.mem_of_getElem? (i := 27) rfl)) (ty := (.object "com/example/ludarc/ludarc/engine/Network$Builder")) (by decide) rfl rfl (g := (mkF m 6 #[.val (.ref a), .val .null, .val (.int i), .val (.ref nm), .val (.ref b), .val .null] [.null, (.ref a)])) rfl rfl (hb hby d5_6)
  have N27 := Fr.snoc X27 N0 ga
  have fw27 := F0.same W27
  have G28 : Go p e below A0 (T27.setTop (mkF m 9 #[.val (.ref a), .val .null, .val (.int i), .val (.ref nm), .val (.ref b), .val .null] [])) := fun tq kq => G26 tq (st27 _ kq)
  have G29 : Go p e below A0 (T27.setTop (mkF m 11 #[.val (.ref a), .val .null, .val (.int i), .val (.ref nm), .val (.ref b), .val .null] [(.int i), (.ref a)])) := fun tq kq => G28 tq (by
    refine XS.aloadN X27.here hx rfl (hb hby d5_9) rfl rfl ?_
    show Steps p.tables e below (T27.setTop (mkF m 10 #[.val (.ref a), .val .null, .val (.int i), .val (.ref nm), .val (.ref b), .val .null] [(.ref a)])) _
    refine XS.iloadN X27.here hx rfl (hb hby d5_10) rfl ?_
    show Steps p.tables e below (T27.setTop (mkF m 11 #[.val (.ref a), .val .null, .val (.int i), .val (.ref nm), .val (.ref b), .val .null] [(.int i), (.ref a)])) _
    exact kq)
  have f30 := (E.wr W27)
  have f31 := (F1.other W27 (Or.inr (slot_ne (Or.inr (hw _ (List.mem_of_getElem? (i := 45) rfl))) (Or.inr (hw _ (List.mem_of_getElem? (i := 43) rfl))) (by decide) (t := .int) (t' := (.object "com/example/ludarc/ludarc/engine/Network$Builder")) (by decide) (by decide))))
  obtain ⟨T32, h32, X32, e32, W32, st32⟩ := putF X27 hx hZ hown (host := "") (Or.inl (hw _ (List.mem_of_getElem? (i := 44) rfl))) Via.refl e27 f31 f30 (Or.inr ⟨(hw _ (List.mem_of_getElem? (i := 45) rfl)), rfl, hnm⟩) (hw _ (List.mem_of_getElem? (i := 27) rfl)) (ty := .int) (by decide) rfl rfl (g := (mkF m 11 #[.val (.ref a), .val .null, .val (.int i), .val (.ref nm), .val (.ref b), .val .null] [(.int i), (.ref a)])) rfl rfl (hb hby d5_11)
  have N32 := Fr.snoc X32 N27 ga
  have fw32 := f31.same W32
  have G33 : Go p e below A0 (T32.setTop (mkF m 14 #[.val (.ref a), .val .null, .val (.int i), .val (.ref nm), .val (.ref b), .val .null] [])) := fun tq kq => G29 tq (st32 _ kq)
  have G34 : Go p e below A0 (T32.setTop (mkF m 16 #[.val (.ref a), .val .null, .val (.int i), .val (.ref nm), .val (.ref b), .val .null] [(.ref nm), (.ref a)])) := fun tq kq => G33 tq (by
    refine XS.aloadN X32.here hx rfl (hb hby d5_14) rfl rfl ?_
    show Steps p.tables e below (T32.setTop (mkF m 15 #[.val (.ref a), .val .null, .val (.int i), .val (.ref nm), .val (.ref b), .val .null] [(.ref a)])) _
    refine XS.aloadN X32.here hx rfl (hb hby d5_15) rfl rfl ?_
    show Steps p.tables e below (T32.setTop (mkF m 16 #[.val (.ref a), .val .null, .val (.int i), .val (.ref nm), .val (.ref b), .val .null] [(.ref nm), (.ref a)])) _
    exact kq)
  have f35 := (f30.wr W32)
  have f36 := ((F2.other W27 (Or.inr (slot_ne (Or.inr (hw _ (List.mem_of_getElem? (i := 47) rfl))) (Or.inr (hw _ (List.mem_of_getElem? (i := 43) rfl))) (by decide) (t := (.object "java/lang/String")) (t' := (.object "com/example/ludarc/ludarc/engine/Network$Builder")) (by decide) (by decide)))).other W32 (Or.inr (slot_ne (Or.inr (hw _ (List.mem_of_getElem? (i := 47) rfl))) (Or.inr (hw _ (List.mem_of_getElem? (i := 45) rfl))) (by decide) (t := (.object "java/lang/String")) (t' := .int) (by decide) (by decide))))
  obtain ⟨T37, h37, X37, e37, W37, st37⟩ := putF X32 hx hZ hown (host := "") (Or.inl (hw _ (List.mem_of_getElem? (i := 46) rfl))) Via.refl e32 f36 f35 (Or.inr ⟨(hw _ (List.mem_of_getElem? (i := 47) rfl)), rfl, hnm⟩) (hw _ (List.mem_of_getElem? (i := 27) rfl)) (ty := (.object "java/lang/String")) (by decide) rfl rfl (g := (mkF m 16 #[.val (.ref a), .val .null, .val (.int i), .val (.ref nm), .val (.ref b), .val .null] [(.ref nm), (.ref a)])) rfl rfl (hb hby d5_16)
  have N37 := Fr.snoc X37 N32 ga
  have fw37 := f36.same W37
  have G38 : Go p e below A0 (T37.setTop (mkF m 19 #[.val (.ref a), .val .null, .val (.int i), .val (.ref nm), .val (.ref b), .val .null] [])) := fun tq kq => G34 tq (st37 _ kq)
  have G39 : Go p e below A0 (T37.setTop (mkF m 22 #[.val (.ref a), .val .null, .val (.int i), .val (.ref nm), .val (.ref b), .val .null] [(.ref b), (.ref a)])) := fun tq kq => G38 tq (by
    refine XS.aloadN X37.here hx rfl (hb hby d5_19) rfl rfl ?_
    show Steps p.tables e below (T37.setTop (mkF m 20 #[.val (.ref a), .val .null, .val (.int i), .val (.ref nm), .val (.ref b), .val .null] [(.ref a)])) _
    refine XS.aload X37.here hx rfl (hb hby d5_20) rfl rfl ?_
    show Steps p.tables e below (T37.setTop (mkF m 22 #[.val (.ref a), .val .null, .val (.int i), .val (.ref nm), .val (.ref b), .val .null] [(.ref b), (.ref a)])) _
    exact kq)
  have f40 := (f35.wr W37)
  have f41 := (((F3.other W27 (Or.inr (slot_ne (Or.inr (hw _ (List.mem_of_getElem? (i := 49) rfl))) (Or.inr (hw _ (List.mem_of_getElem? (i := 43) rfl))) (by decide) (t := (.array .int)) (t' := (.object "com/example/ludarc/ludarc/engine/Network$Builder")) (by decide) (by decide)))).other W32 (Or.inr (slot_ne (Or.inr (hw _ (List.mem_of_getElem? (i := 49) rfl))) (Or.inr (hw _ (List.mem_of_getElem? (i := 45) rfl))) (by decide) (t := (.array .int)) (t' := .int) (by decide) (by decide)))).other W37 (Or.inr (slot_ne (Or.inr (hw _ (List.mem_of_getElem? (i := 49) rfl))) (Or.inr (hw _ (List.mem_of_getElem? (i := 47) rfl))) (by decide) (t := (.array .int)) (t' := (.object "java/lang/String")) (by decide) (by decide))))
  obtain ⟨T42, h42, X42, e42, W42, st42⟩ := putF X37 hx hZ hown (host := "") (Or.inl (hw _ (List.mem_of_getElem? (i := 48) rfl))) Via.refl e37 f41 f40 (Or.inr ⟨(hw _ (List.mem_of_getElem? (i := 49) rfl)), rfl, hnm⟩) (hw _ (List.mem_of_getElem? (i := 27) rfl)) (ty := (.array .int)) (by decide) rfl rfl (g := (mkF m 22 #[.val (.ref a), .val .null, .val (.int i), .val (.ref nm), .val (.ref b), .val .null] [(.ref b), (.ref a)])) rfl rfl (hb hby d5_22)
  have N42 := Fr.snoc X42 N37 ga
  have fw42 := f41.same W42
  have G43 : Go p e below A0 (T42.setTop (mkF m 25 #[.val (.ref a), .val .null, .val (.int i), .val (.ref nm), .val (.ref b), .val .null] [])) := fun tq kq => G39 tq (st42 _ kq)
  have G44 : Go p e below A0 (T42.setTop (mkF m 28 #[.val (.ref a), .val .null, .val (.int i), .val (.ref nm), .val (.ref b), .val .null] [.null, (.ref a)])) := fun tq kq => G43 tq (by
    refine XS.aloadN X42.here hx rfl (hb hby d5_25) rfl rfl ?_
    show Steps p.tables e below (T42.setTop (mkF m 26 #[.val (.ref a), .val .null, .val (.int i), .val (.ref nm), .val (.ref b), .val .null] [(.ref a)])) _
    refine XS.aload X42.here hx rfl (hb hby d5_26) rfl rfl ?_
    show Steps p.tables e below (T42.setTop (mkF m 28 #[.val (.ref a), .val .null, .val (.int i), .val (.ref nm), .val (.ref b), .val .null] [.null, (.ref a)])) _
    exact kq)
  have f45 := (f40.wr W42)
  have f46 := ((((F4.other W27 (Or.inr (slot_ne (Or.inr (hw _ (List.mem_of_getElem? (i := 51) rfl))) (Or.inr (hw _ (List.mem_of_getElem? (i := 43) rfl))) (by decide) (t := (.array .double)) (t' := (.object "com/example/ludarc/ludarc/engine/Network$Builder")) (by decide) (by decide)))).other W32 (Or.inr (slot_ne (Or.inr (hw _ (List.mem_of_getElem? (i := 51) rfl))) (Or.inr (hw _ (List.mem_of_getElem? (i := 45) rfl))) (by decide) (t := (.array .double)) (t' := .int) (by decide) (by decide)))).other W37 (Or.inr (slot_ne (Or.inr (hw _ (List.mem_of_getElem? (i := 51) rfl))) (Or.inr (hw _ (List.mem_of_getElem? (i := 47) rfl))) (by decide) (t := (.array .double)) (t' := (.object "java/lang/String")) (by decide) (by decide)))).other W42 (Or.inr (slot_ne (Or.inr (hw _ (List.mem_of_getElem? (i := 51) rfl))) (Or.inr (hw _ (List.mem_of_getElem? (i := 49) rfl))) (by decide) (t := (.array .double)) (t' := (.array .int)) (by decide) (by decide))))
  obtain ⟨T47, h47, X47, e47, W47, st47⟩ := putF X42 hx hZ hown (host := "") (Or.inl (hw _ (List.mem_of_getElem? (i := 50) rfl))) Via.refl e42 f46 f45 (Or.inr ⟨(hw _ (List.mem_of_getElem? (i := 51) rfl)), rfl, hnm⟩) (hw _ (List.mem_of_getElem? (i := 27) rfl)) (ty := (.array .double)) (by decide) rfl rfl (g := (mkF m 28 #[.val (.ref a), .val .null, .val (.int i), .val (.ref nm), .val (.ref b), .val .null] [.null, (.ref a)])) rfl rfl (hb hby d5_28)
  have N47 := Fr.snoc X47 N42 ga
  have fw47 := f46.same W47
  have G48 : Go p e below A0 (T47.setTop (mkF m 31 #[.val (.ref a), .val .null, .val (.int i), .val (.ref nm), .val (.ref b), .val .null] [])) := fun tq kq => G44 tq (st47 _ kq)
  have f49 := (fw42.other W47 (Or.inr (slot_ne (Or.inr (hw _ (List.mem_of_getElem? (i := 49) rfl))) (Or.inr (hw _ (List.mem_of_getElem? (i := 51) rfl))) (by decide) (t := (.array .int)) (t' := (.array .double)) (by decide) (by decide))))
  obtain ⟨fs, hr, hrun, hended, hW, hsame⟩ := X47.leave (v := none) (fun _ => rfl)
  refine ⟨_, _, (by rw [← hA0]; exact G48 _ (X47.returnOut hx Bd.returns (hb hby d5_31) hr)), hrun, hended, _, _, rfl, ?_, ⟨_, rfl⟩, hW, hsame.mono (by decide) (by decide)⟩
  show Qv Z a b h0 n0 _ T47.heap _
  rw [e47]
  exact ⟨rfl, N47, ((((((Keep.refl h0 [a]).wr W27 (Or.inl (List.mem_of_getElem? (i := 0) rfl))).wr W32 (Or.inl (List.mem_of_getElem? (i := 0) rfl))).wr W37 (Or.inl (List.mem_of_getElem? (i := 0) rfl))).wr W42 (Or.inl (List.mem_of_getElem? (i := 0) rfl))).wr W47 (Or.inl (List.mem_of_getElem? (i := 0) rfl))), f49⟩
set_option maxRecDepth 65536 in
set_option maxHeartbeats 40000000 in
theorem rm17 (l : Launch) (Z : State) (a0 : Array Value) (hw : ∀ d ∈ tables_1, d.before a0 Z = true) (ws : List Jvm.Cond) (a b : Addr) (n : Int32) (kb : ClassId) (vs : List Value) (h0 : Heap) (n0 : Nat) (Z0 : n0 ≤ h0.size) (F : Fld Z h0 a "com/example/ludarc/ludarc/engine/Variable" "values" "[I" (.ref b)) (A : Arv Z h0 b kb .int n vs (.int (0 : Int32))) :
    MetFree l (⟨"com/example/ludarc/ludarc/engine/Variable", "size", "()I"⟩ : MethodName) (head1 (Jvm.Cond.code (⟨"com/example/ludarc/ludarc/engine/Variable", "size", "()I"⟩ : MethodName) prog_18_method_8_code 1 (some .int) :: ws) ({ frames := 0, cells := 0, slots := 0, locals := 0 } : Room)) (fun aa UU => aa = #[(.ref a)] ∧ Z.Warmed39 UU.vm ∧ UU.heap = h0) (fun _ _ _ _ _ => True) (fun _ UU oo U' => ∃ v L, oo = .returned v ∧ Qr (.int n) h0 n0 v U'.heap L ∧ FrameEnd UU oo U' L ({ frames := 0, cells := 0, slots := 0, locals := 0 } : Room).cells ({ frames := 0, cells := 0, slots := 0, locals := 0 } : Room).slots) := by
  refine MetFree.of_bodySF (plainFor_of_name pn_3) hisR ?_
  intro p e s m args below meth c s₁ Bd hml0 hP hK
  obtain ⟨rfl, hZ, hh⟩ := hP
  have hx := Bd.exec
  have hby := Bd.bytes
  have hml : c.maxLocals = 1 := hml0
  have hown : s.vm.findClass "com/example/ludarc/ludarc/engine/Variable" = some m.cls := findClass_of_methodNamed Bd.named
  have hnm := (name_of_methodNamed Bd.named Bd.method).1
  have X0 : Stand p l e ({ frames := 0, cells := 0, slots := 0, locals := 0 } : Room) s m #[(.ref a)] below meth c s₁ [] 0 0 := Stand.of_body Bd
  have e0 : s₁.heap = h0 := by rw [← hh, Bd.state]; rfl
  have N0 := Fr.nil n0
  obtain ⟨A0, hA0⟩ : ∃ A, A = s₁.setTop (entryFrame m #[(.ref a)] 1) := ⟨_, rfl⟩
  have G0 : Go p e below A0 (s₁.setTop (mkF m 0 #[.val (.ref a)] [])) := fun tq kq => by rw [hA0]; exact castTop (ef_rm17 m a) kq
  have G50 : Go p e below A0 (s₁.setTop (mkF m 1 #[.val (.ref a)] [(.ref a)])) := fun tq kq => G0 tq (by
    refine XS.aloadN X0.here hx rfl (hb hby d17_0) rfl rfl ?_
    show Steps p.tables e below (s₁.setTop (mkF m 1 #[.val (.ref a)] [(.ref a)])) _
    exact kq)
  obtain ⟨T51, X51, e51, st51⟩ := getF X0 hx hZ hown (host := "") (Or.inl (hw _ (List.mem_of_getElem? (i := 48) rfl))) Via.refl e0 F (g := (mkF m 1 #[.val (.ref a)] [(.ref a)])) rfl rfl (hb hby d17_1)
  have G52 : Go p e below A0 (T51.setTop (mkF m 4 #[.val (.ref a)] [(.ref b)])) := fun tq kq => G50 tq (st51 _ kq)
  obtain ⟨cl53, Ar53, q53, S53, M53, H53, Gf53⟩ := id A
  have G54 : Go p e below A0 (T51.setTop (mkF m 5 #[.val (.ref a)] [(.int n)])) := fun tq kq => G52 tq (by
    refine X51.arraylength hx (by rw [e51]; exact Ar53.1) (State.isArrayOf_alike hZ.alike Ar53.2.1) (g := (mkF m 4 #[.val (.ref a)] [(.ref b)])) rfl rfl (hb hby d17_4) _ ?_
    rw [len_of S53 M53]
    show Steps p.tables e below (T51.setTop (mkF m 5 #[.val (.ref a)] [(.int n)])) _
    exact kq)
  obtain ⟨fs, hr, hrun, hended, hW, hsame⟩ := X51.leave (v := some (.int n)) (fun h => by rw [Bd.returns] at h; cases h)
  refine ⟨_, _, (by rw [← hA0]; exact G54 _ (retOut X51 hx (t := .int) Bd.returns rfl (Or.inl ⟨rfl, Or.inl rfl, _, rfl⟩) (hb hby d17_5) hr)), hrun, hended, _, _, rfl, ?_, ⟨_, rfl⟩, hW, hsame.mono (by decide) (by decide)⟩
  exact ⟨rfl, N0, e51⟩
set_option maxRecDepth 65536 in
set_option maxHeartbeats 40000000 in
theorem rm10 (l : Launch) (Z : State) (a0 : Array Value) (hw : ∀ d ∈ tables_1, d.before a0 Z = true) (ws : List Jvm.Cond)  (h0 : Heap) (n0 : Nat) (Z0 : n0 ≤ h0.size) :
    MetFree l (⟨"java/lang/Math", "max", "(II)I"⟩ : MethodName) (head1 (Jvm.Cond.code (⟨"java/lang/Math", "max", "(II)I"⟩ : MethodName) jdk_29_method_65_code 2 (some .int) :: ws) ({ frames := 0, cells := 0, slots := 0, locals := 0 } : Room)) (fun aa UU => aa = #[(.int (10 : Int32)), (.int (1 : Int32))] ∧ Z.Warmed39 UU.vm ∧ UU.heap = h0) (fun _ _ _ _ _ => True) (fun _ UU oo U' => ∃ v L, oo = .returned v ∧ Qr (.int (10 : Int32)) h0 n0 v U'.heap L ∧ FrameEnd UU oo U' L ({ frames := 0, cells := 0, slots := 0, locals := 0 } : Room).cells ({ frames := 0, cells := 0, slots := 0, locals := 0 } : Room).slots) := by
  refine MetFree.of_bodySF (Jvm.Free.JP.mathPlain rfl (by decide +kernel)) hisR ?_
  intro p e s m args below meth c s₁ Bd hml0 hP hK
  obtain ⟨rfl, hZ, hh⟩ := hP
  have hx := Bd.exec
  have hby := Bd.bytes
  have hml : c.maxLocals = 2 := hml0
  have hown : s.vm.findClass "java/lang/Math" = some m.cls := findClass_of_methodNamed Bd.named
  have hnm := (name_of_methodNamed Bd.named Bd.method).1
  have X0 : Stand p l e ({ frames := 0, cells := 0, slots := 0, locals := 0 } : Room) s m #[(.int (10 : Int32)), (.int (1 : Int32))] below meth c s₁ [] 0 0 := Stand.of_body Bd
  have e0 : s₁.heap = h0 := by rw [← hh, Bd.state]; rfl
  have N0 := Fr.nil n0
  obtain ⟨A0, hA0⟩ : ∃ A, A = s₁.setTop (entryFrame m #[(.int (10 : Int32)), (.int (1 : Int32))] 2) := ⟨_, rfl⟩
  have G0 : Go p e below A0 (s₁.setTop (mkF m 0 #[.val (.int (10 : Int32)), .val (.int (1 : Int32))] [])) := fun tq kq => by rw [hA0]; exact castTop (ef_rm10 m (10 : Int32) (1 : Int32)) kq
  have G55 : Go p e below A0 (s₁.setTop (mkF m 10 #[.val (.int (10 : Int32)), .val (.int (1 : Int32))] [(.int (10 : Int32))])) := fun tq kq => G0 tq (by
    refine XS.iloadN X0.here hx rfl (hb hby d10_0) rfl ?_
    show Steps p.tables e below (s₁.setTop (mkF m 1 #[.val (.int (10 : Int32)), .val (.int (1 : Int32))] [(.int (10 : Int32))])) _
    refine XS.iloadN X0.here hx rfl (hb hby d10_1) rfl ?_
    show Steps p.tables e below (s₁.setTop (mkF m 2 #[.val (.int (10 : Int32)), .val (.int (1 : Int32))] [(.int (1 : Int32)), (.int (10 : Int32))])) _
    refine XS.icmpNo X0.here hx rfl (hb hby d10_2) rfl (by decide) ?_
    show Steps p.tables e below (s₁.setTop (mkF m 5 #[.val (.int (10 : Int32)), .val (.int (1 : Int32))] [])) _
    refine XS.iloadN X0.here hx rfl (hb hby d10_5) rfl ?_
    show Steps p.tables e below (s₁.setTop (mkF m 6 #[.val (.int (10 : Int32)), .val (.int (1 : Int32))] [(.int (10 : Int32))])) _
    refine XS.goto X0.here hx rfl (pc0 := 6) (pc' := 10) rfl (hb hby d10_6) (by decide) (by decide) ?_
    show Steps p.tables e below (s₁.setTop (mkF m 10 #[.val (.int (10 : Int32)), .val (.int (1 : Int32))] [(.int (10 : Int32))])) _
    exact kq)
  obtain ⟨fs, hr, hrun, hended, hW, hsame⟩ := X0.leave (v := some (.int (10 : Int32))) (fun h => by rw [Bd.returns] at h; cases h)
  refine ⟨_, _, (by rw [← hA0]; exact G55 _ (retOut X0 hx (t := .int) Bd.returns rfl (Or.inl ⟨rfl, Or.inl rfl, _, rfl⟩) (hb hby d10_10) hr)), hrun, hended, _, _, rfl, ?_, ⟨_, rfl⟩, hW, hsame.mono (by decide) (by decide)⟩
  exact ⟨rfl, N0, e0⟩
def Qg (Z : State) (a : Addr) (mc : Int32) (h0 : Heap) (n0 : Nat) (v : Option Value) (h : Heap) (L : List Loc) : Prop := ∃ b kb, v = some (.ref b) ∧ Fr n0 L ∧ Keep h0 h [a] ∧ h0.size ≤ b ∧ n0 ≤ b ∧ Fld Z h a "java/util/AbstractList" "modCount" "I" (.int mc) ∧ Fld Z h a "java/util/ArrayList" "elementData" "[Ljava/lang/Object;" (.ref b) ∧ Fld Z h a "java/util/ArrayList" "size" "I" (.int (0 : Int32)) ∧ Arv Z h b kb (.object "java/lang/Object") (10 : Int32) [.null, .null, .null, .null, .null, .null, .null, .null, .null, .null] .null ∧ Ovr Z kb "java/lang/Object"
set_option maxRecDepth 65536 in
set_option maxHeartbeats 40000000 in
theorem rm9 (l : Launch) (Z : State) (a0 : Array Value) (hw : ∀ d ∈ tables_1, d.before a0 Z = true) (ws : List Jvm.Cond) (a da : Addr) (mc : Int32) (kd : ClassId) (h0 : Heap) (n0 : Nat) (Z0 : n0 ≤ h0.size) (E : Exa Z h0 a "java/util/ArrayList") (ga : n0 ≤ a) (F0 : Fld Z h0 a "java/util/AbstractList" "modCount" "I" (.int mc)) (F1 : Fld Z h0 a "java/util/ArrayList" "elementData" "[Ljava/lang/Object;" (.ref da)) (F2 : Fld Z h0 a "java/util/ArrayList" "size" "I" (.int (0 : Int32))) (hold : Old Z n0 h0) (hSd : Sta Z Z.heap "java/util/ArrayList" "DEFAULTCAPACITY_EMPTY_ELEMENTDATA" "[Ljava/lang/Object;" (.ref da)) (hAd : Arv Z Z.heap da kd (.object "java/lang/Object") (0 : Int32) [] .null) :
    MetFree l (⟨"java/util/ArrayList", "grow", "(I)[Ljava/lang/Object;"⟩ : MethodName) (head1 (Jvm.Cond.code (⟨"java/util/ArrayList", "grow", "(I)[Ljava/lang/Object;"⟩ : MethodName) jdk_38_method_6_code 4 (some (.array (.object "java/lang/Object"))) :: ws) ({ frames := 1, cells := 1, slots := 10, locals := 14 } : Room)) (fun aa UU => aa = #[(.ref a), (.int (1 : Int32))] ∧ Z.Warmed39 UU.vm ∧ UU.heap = h0) (fun _ _ _ _ _ => True) (fun _ UU oo U' => ∃ v L, oo = .returned v ∧ Qg Z a mc h0 n0 v U'.heap L ∧ FrameEnd UU oo U' L ({ frames := 1, cells := 1, slots := 10, locals := 14 } : Room).cells ({ frames := 1, cells := 1, slots := 10, locals := 14 } : Room).slots) := by
  refine MetFree.of_bodySF (plainFor_of_name pn_2) hisR ?_
  intro p e s m args below meth c s₁ Bd hml0 hP hK
  obtain ⟨rfl, hZ, hh⟩ := hP
  have hx := Bd.exec
  have hby := Bd.bytes
  have hml : c.maxLocals = 4 := hml0
  have hown : s.vm.findClass "java/util/ArrayList" = some m.cls := findClass_of_methodNamed Bd.named
  have hnm := (name_of_methodNamed Bd.named Bd.method).1
  have X0 : Stand p l e ({ frames := 1, cells := 1, slots := 10, locals := 14 } : Room) s m #[(.ref a), (.int (1 : Int32))] below meth c s₁ [] 0 0 := Stand.of_body Bd
  have e0 : s₁.heap = h0 := by rw [← hh, Bd.state]; rfl
  have N0 := Fr.nil n0
  obtain ⟨A0, hA0⟩ : ∃ A, A = s₁.setTop (entryFrame m #[(.ref a), (.int (1 : Int32))] 4) := ⟨_, rfl⟩
  have G0 : Go p e below A0 (s₁.setTop (mkF m 0 #[.val (.ref a), .val (.int (1 : Int32)), .unset, .unset] [])) := fun tq kq => by rw [hA0]; exact castTop (ef_rm9 m a (1 : Int32)) kq
  have hAd0 := hAd.ext hold.2
  have G56 : Go p e below A0 (s₁.setTop (mkF m 1 #[.val (.ref a), .val (.int (1 : Int32)), .unset, .unset] [(.ref a)])) := fun tq kq => G0 tq (by
    refine XS.aloadN X0.here hx rfl (hb hby d9_0) rfl rfl ?_
    show Steps p.tables e below (s₁.setTop (mkF m 1 #[.val (.ref a), .val (.int (1 : Int32)), .unset, .unset] [(.ref a)])) _
    exact kq)
  obtain ⟨T57, X57, e57, st57⟩ := getF X0 hx hZ hown (host := "") (Or.inl (hw _ (List.mem_of_getElem? (i := 24) rfl))) Via.refl e0 F1 (g := (mkF m 1 #[.val (.ref a), .val (.int (1 : Int32)), .unset, .unset] [(.ref a)])) rfl rfl (hb hby d9_1)
  have G58 : Go p e below A0 (T57.setTop (mkF m 4 #[.val (.ref a), .val (.int (1 : Int32)), .unset, .unset] [(.ref da)])) := fun tq kq => G56 tq (st57 _ kq)
  obtain ⟨cl59, Ar59, q59, S59, M59, H59, Gf59⟩ := id hAd0
  have G60 : Go p e below A0 (T57.setTop (mkF m 11 #[.val (.ref a), .val (.int (1 : Int32)), .val (.int (0 : Int32)), .unset] [(.ref a)])) := fun tq kq => G58 tq (by
    refine X57.arraylength hx (by rw [e57]; exact Ar59.1) (State.isArrayOf_alike hZ.alike Ar59.2.1) (g := (mkF m 4 #[.val (.ref a), .val (.int (1 : Int32)), .unset, .unset] [(.ref da)])) rfl rfl (hb hby d9_4) _ ?_
    rw [len_of S59 M59]
    show Steps p.tables e below (T57.setTop (mkF m 5 #[.val (.ref a), .val (.int (1 : Int32)), .unset, .unset] [(.int (0 : Int32))])) _
    refine XS.istoreN X57.here hx rfl (hb hby d9_5) rfl (l' := #[.val (.ref a), .val (.int (1 : Int32)), .val (.int (0 : Int32)), .unset]) rfl ?_
    show Steps p.tables e below (T57.setTop (mkF m 6 #[.val (.ref a), .val (.int (1 : Int32)), .val (.int (0 : Int32)), .unset] [])) _
    refine XS.iloadN X57.here hx rfl (hb hby d9_6) rfl ?_
    show Steps p.tables e below (T57.setTop (mkF m 7 #[.val (.ref a), .val (.int (1 : Int32)), .val (.int (0 : Int32)), .unset] [(.int (0 : Int32))])) _
    refine XS.ifNo X57.here hx rfl (hb hby d9_7) rfl (by decide) ?_
    show Steps p.tables e below (T57.setTop (mkF m 10 #[.val (.ref a), .val (.int (1 : Int32)), .val (.int (0 : Int32)), .unset] [])) _
    refine XS.aloadN X57.here hx rfl (hb hby d9_10) rfl rfl ?_
    show Steps p.tables e below (T57.setTop (mkF m 11 #[.val (.ref a), .val (.int (1 : Int32)), .val (.int (0 : Int32)), .unset] [(.ref a)])) _
    exact kq)
  obtain ⟨T61, X61, e61, st61⟩ := getF X57 hx hZ hown (host := "") (Or.inl (hw _ (List.mem_of_getElem? (i := 24) rfl))) Via.refl e57 F1 (g := (mkF m 11 #[.val (.ref a), .val (.int (1 : Int32)), .val (.int (0 : Int32)), .unset] [(.ref a)])) rfl rfl (hb hby d9_11)
  have G62 : Go p e below A0 (T61.setTop (mkF m 14 #[.val (.ref a), .val (.int (1 : Int32)), .val (.int (0 : Int32)), .unset] [(.ref da)])) := fun tq kq => G60 tq (st61 _ kq)
  obtain ⟨T63, X63, e63, st63⟩ := getS2 X61 hx hZ hown (host := "") (Or.inl (hw _ (List.mem_of_getElem? (i := 23) rfl))) Via.refl e61 (hSd.ext hold.2) (g := (mkF m 14 #[.val (.ref a), .val (.int (1 : Int32)), .val (.int (0 : Int32)), .unset] [(.ref da)])) rfl (hb hby d9_14)
  have G64 : Go p e below A0 (T63.setTop (mkF m 17 #[.val (.ref a), .val (.int (1 : Int32)), .val (.int (0 : Int32)), .unset] [(.ref da), (.ref da)])) := fun tq kq => G62 tq (st63 _ kq)
  have G65 : Go p e below A0 (T63.setTop (mkF m 49 #[.val (.ref a), .val (.int (1 : Int32)), .val (.int (0 : Int32)), .unset] [(.int (1 : Int32)), (.int (10 : Int32)), (.ref a)])) := fun tq kq => G64 tq (by
    refine Jvm.RoadKit.acmp (g := (mkF m 17 #[.val (.ref a), .val (.int (1 : Int32)), .val (.int (0 : Int32)), .unset] [(.ref da), (.ref da)])) X63 hx rfl rfl rfl (pc0 := 17) (pc' := 45) (same := true) rfl (hb hby d9_17) rfl (decide_eq_true rfl) (by decide) (by decide) ?_
    show Steps p.tables e below (T63.setTop (mkF m 45 #[.val (.ref a), .val (.int (1 : Int32)), .val (.int (0 : Int32)), .unset] [])) _
    refine XS.aloadN X63.here hx rfl (hb hby d9_45) rfl rfl ?_
    show Steps p.tables e below (T63.setTop (mkF m 46 #[.val (.ref a), .val (.int (1 : Int32)), .val (.int (0 : Int32)), .unset] [(.ref a)])) _
    refine XS.bipush X63.here hx rfl (hb hby d9_46) ?_
    show Steps p.tables e below (T63.setTop (mkF m 48 #[.val (.ref a), .val (.int (1 : Int32)), .val (.int (0 : Int32)), .unset] [(.int (10 : Int32)), (.ref a)])) _
    refine XS.iloadN X63.here hx rfl (hb hby d9_48) rfl ?_
    show Steps p.tables e below (T63.setTop (mkF m 49 #[.val (.ref a), .val (.int (1 : Int32)), .val (.int (0 : Int32)), .unset] [(.int (1 : Int32)), (.int (10 : Int32)), (.ref a)])) _
    exact kq)
  obtain ⟨_, _, ⟨T66, L66, k66, n66⟩, -, X66, ⟨Lc66, hQ66, l66, y66, z66⟩, st66⟩ := Jvm.LawKit.callS X63 hx (y := (⟨"java/lang/Math", "max", "(II)I"⟩ : MethodName)) hown (mvT hZ (hw _ (List.mem_of_getElem? (i := 76) rfl))) (mvT hZ (hw _ (List.mem_of_getElem? (i := 77) rfl))) (mvT hZ (hw _ (List.mem_of_getElem? (i := 78) rfl))) (mvT hZ (hw _ (List.mem_of_getElem? (i := 79) rfl))) (by decide) (backOf (W := 1) (rm10 l Z a0 hw [] h0 n0 Z0) hZ (hw _ (List.mem_of_getElem? (i := 79) rfl)) (hw _ (List.mem_of_getElem? (i := 78) rfl)) (by decide) (by decide)) (g := (mkF m 49 #[.val (.ref a), .val (.int (1 : Int32)), .val (.int (0 : Int32)), .unset] [(.int (1 : Int32)), (.int (10 : Int32)), (.ref a)])) rfl (by rw [hml]; rfl) (argsL := [(.int (10 : Int32)), (.int (1 : Int32))]) (rest := [(.ref a)]) (lenOf pd_1 rfl) rfl (by show 2 * 0 + _ ≤ _; exact Nat.le_of_eq rfl) (hb hby d9_49) (fun _ _ => ⟨rfl, e63, (by decide : 0 + 0 ≤ _), (by decide : 0 + 0 ≤ _)⟩)
  dsimp only [Pt.U, Pt.locs, Pt.cells, Pt.slots] at X66 l66 y66 z66 st66 hQ66
  obtain rfl : k66 = 0 := y66
  obtain rfl : n66 = 0 := z66
  obtain ⟨rfl, N66q, e66⟩ := hQ66
  have N66 : Fr n0 L66 := by rw [l66]; exact Fr.app N0 N66q
  have G67 : Go p e below A0 (T66.setTop (mkF m 52 #[.val (.ref a), .val (.int (1 : Int32)), .val (.int (0 : Int32)), .unset] [(.int (10 : Int32)), (.ref a)])) := fun tq kq => G65 tq (st66 _ kq)
  obtain ⟨T68, h68, k68, X68, e68, E68, A68, O68, st68⟩ := newR X66 hx hZ hown (hw _ (List.mem_of_getElem? (i := 80) rfl)) (hw _ (List.mem_of_getElem? (i := 81) rfl)) e66 (g := (mkF m 52 #[.val (.ref a), .val (.int (1 : Int32)), .val (.int (0 : Int32)), .unset] [(.int (10 : Int32)), (.ref a)])) rfl (hb hby d9_52) rfl (by decide) (cap := 10) (by decide) (by decide) (by decide) (by decide)
  obtain ⟨b68, g68⟩ : ∃ z, z = h0.size := ⟨_, rfl⟩
  rw [← g68] at A68 st68
  have sz_b68 : h0.size ≤ b68 := Nat.le_trans (Nat.le_refl h0.size) (Nat.le_of_eq g68.symm)
  have g_b68 : n0 ≤ b68 := Nat.le_trans Z0 (Nat.le_of_eq g68.symm)
  have lt_a_b68 : a < b68 := Nat.lt_of_lt_of_le E.lt (Nat.le_of_eq g68.symm)
  have lt_da_b68 : da < b68 := Nat.lt_of_lt_of_le hAd0.lt (Nat.le_of_eq g68.symm)
  have V68 : Arv Z h68 b68 k68 (.object "java/lang/Object") (10 : Int32) [.null, .null, .null, .null, .null, .null, .null, .null, .null, .null] .null := (Arv.new A68 (by decide)).pad (pad_rep [] .null 10)
  have G69 : Go p e below A0 (T68.setTop (mkF m 55 #[.val (.ref a), .val (.int (1 : Int32)), .val (.int (0 : Int32)), .unset] [(.ref b68), (.ref a)])) := fun tq kq => G67 tq (st68 _ kq)
  have G70 : Go p e below A0 (T68.setTop (mkF m 56 #[.val (.ref a), .val (.int (1 : Int32)), .val (.int (0 : Int32)), .unset] [(.ref b68), (.ref a), (.ref b68)])) := fun tq kq => G69 tq (by
    refine XS.dupX1 X68.here hx rfl (hb hby d9_55) rfl rfl rfl ?_
    show Steps p.tables e below (T68.setTop (mkF m 56 #[.val (.ref a), .val (.int (1 : Int32)), .val (.int (0 : Int32)), .unset] [(.ref b68), (.ref a), (.ref b68)])) _
    exact kq)
  have f71 := (E.ext E68)
  have f72 := (F1.ext E68)
  obtain ⟨T73, h73, X73, e73, W73, st73⟩ := putF X68 hx hZ hown (host := "") (Or.inl (hw _ (List.mem_of_getElem? (i := 24) rfl))) Via.refl e68 f72 f71 (Or.inl (hw _ (List.mem_of_getElem? (i := 25) rfl))) (hw _ (List.mem_of_getElem? (i := 1) rfl)) (ty := (.array (.object "java/lang/Object"))) (by decide) rfl rfl (g := (mkF m 56 #[.val (.ref a), .val (.int (1 : Int32)), .val (.int (0 : Int32)), .unset] [(.ref b68), (.ref a), (.ref b68)])) rfl rfl (hb hby d9_56)
  have N73 := Fr.snoc X73 N66 ga
  have fw73 := f72.same W73
  have G74 : Go p e below A0 (T73.setTop (mkF m 59 #[.val (.ref a), .val (.int (1 : Int32)), .val (.int (0 : Int32)), .unset] [(.ref b68)])) := fun tq kq => G70 tq (st73 _ kq)
  have f75 := ((F0.ext E68).other W73 (Or.inr (slot_ne (Or.inl (hw _ (List.mem_of_getElem? (i := 22) rfl))) (Or.inl (hw _ (List.mem_of_getElem? (i := 25) rfl))) (by decide) (t := .int) (t' := (.array (.object "java/lang/Object"))) (by decide) (by decide))))
  have f76 := ((F2.ext E68).other W73 (Or.inr (slot_ne (Or.inl (hw _ (List.mem_of_getElem? (i := 60) rfl))) (Or.inl (hw _ (List.mem_of_getElem? (i := 25) rfl))) (by decide) (t := .int) (t' := (.array (.object "java/lang/Object"))) (by decide) (by decide))))
  have f77 := (V68.other W73 (Ne.symm (Nat.ne_of_lt lt_a_b68)))
  obtain ⟨fs, hr, hrun, hended, hW, hsame⟩ := X73.leave (v := some (.ref b68)) (fun h => by rw [Bd.returns] at h; cases h)
  refine ⟨_, _, (by rw [← hA0]; exact G74 _ (retOut X73 hx (t := (.array (.object "java/lang/Object"))) Bd.returns rfl (Or.inr (Or.inr (Or.inr (Or.inr ⟨rfl, rfl, rfl⟩)))) (hb hby d9_59) hr)), hrun, hended, _, _, rfl, ?_, ⟨_, rfl⟩, hW, hsame.mono (by decide) (by decide)⟩
  show Qg Z a mc h0 n0 _ T73.heap _
  rw [e73]
  exact ⟨b68, k68, rfl, N73, (((Keep.refl h0 [a]).ext E68).wr W73 (Or.inl (List.mem_of_getElem? (i := 0) rfl))), sz_b68, g_b68, f75, fw73, f76, f77, O68⟩
set_option maxRecDepth 65536 in
set_option maxHeartbeats 40000000 in
theorem rm8 (l : Launch) (Z : State) (a0 : Array Value) (hw : ∀ d ∈ tables_1, d.before a0 Z = true) (ws : List Jvm.Cond) (a da : Addr) (mc : Int32) (kd : ClassId) (h0 : Heap) (n0 : Nat) (Z0 : n0 ≤ h0.size) (E : Exa Z h0 a "java/util/ArrayList") (ga : n0 ≤ a) (F0 : Fld Z h0 a "java/util/AbstractList" "modCount" "I" (.int mc)) (F1 : Fld Z h0 a "java/util/ArrayList" "elementData" "[Ljava/lang/Object;" (.ref da)) (F2 : Fld Z h0 a "java/util/ArrayList" "size" "I" (.int (0 : Int32))) (hold : Old Z n0 h0) (hSd : Sta Z Z.heap "java/util/ArrayList" "DEFAULTCAPACITY_EMPTY_ELEMENTDATA" "[Ljava/lang/Object;" (.ref da)) (hAd : Arv Z Z.heap da kd (.object "java/lang/Object") (0 : Int32) [] .null) :
    MetFree l (⟨"java/util/ArrayList", "grow", "()[Ljava/lang/Object;"⟩ : MethodName) (head1 (Jvm.Cond.code (⟨"java/util/ArrayList", "grow", "()[Ljava/lang/Object;"⟩ : MethodName) jdk_38_method_7_code 1 (some (.array (.object "java/lang/Object"))) :: ws) ({ frames := 2, cells := 1, slots := 10, locals := 29 } : Room)) (fun aa UU => aa = #[(.ref a)] ∧ Z.Warmed39 UU.vm ∧ UU.heap = h0) (fun _ _ _ _ _ => True) (fun _ UU oo U' => ∃ v L, oo = .returned v ∧ Qg Z a mc h0 n0 v U'.heap L ∧ FrameEnd UU oo U' L ({ frames := 2, cells := 1, slots := 10, locals := 29 } : Room).cells ({ frames := 2, cells := 1, slots := 10, locals := 29 } : Room).slots) := by
  refine MetFree.of_bodySF (plainFor_of_name pn_2) hisR ?_
  intro p e s m args below meth c s₁ Bd hml0 hP hK
  obtain ⟨rfl, hZ, hh⟩ := hP
  have hx := Bd.exec
  have hby := Bd.bytes
  have hml : c.maxLocals = 1 := hml0
  have hown : s.vm.findClass "java/util/ArrayList" = some m.cls := findClass_of_methodNamed Bd.named
  have hnm := (name_of_methodNamed Bd.named Bd.method).1
  have X0 : Stand p l e ({ frames := 2, cells := 1, slots := 10, locals := 29 } : Room) s m #[(.ref a)] below meth c s₁ [] 0 0 := Stand.of_body Bd
  have e0 : s₁.heap = h0 := by rw [← hh, Bd.state]; rfl
  have N0 := Fr.nil n0
  obtain ⟨A0, hA0⟩ : ∃ A, A = s₁.setTop (entryFrame m #[(.ref a)] 1) := ⟨_, rfl⟩
  have G0 : Go p e below A0 (s₁.setTop (mkF m 0 #[.val (.ref a)] [])) := fun tq kq => by rw [hA0]; exact castTop (ef_rm8 m a) kq
  have hAd0 := hAd.ext hold.2
  have G78 : Go p e below A0 (s₁.setTop (mkF m 2 #[.val (.ref a)] [(.ref a), (.ref a)])) := fun tq kq => G0 tq (by
    refine XS.aloadN X0.here hx rfl (hb hby d8_0) rfl rfl ?_
    show Steps p.tables e below (s₁.setTop (mkF m 1 #[.val (.ref a)] [(.ref a)])) _
    refine XS.aloadN X0.here hx rfl (hb hby d8_1) rfl rfl ?_
    show Steps p.tables e below (s₁.setTop (mkF m 2 #[.val (.ref a)] [(.ref a), (.ref a)])) _
    exact kq)
  obtain ⟨T79, X79, e79, st79⟩ := getF X0 hx hZ hown (host := "") (Or.inl (hw _ (List.mem_of_getElem? (i := 59) rfl))) Via.refl e0 F2 (g := (mkF m 2 #[.val (.ref a)] [(.ref a), (.ref a)])) rfl rfl (hb hby d8_2)
  have G80 : Go p e below A0 (T79.setTop (mkF m 5 #[.val (.ref a)] [(.int (0 : Int32)), (.ref a)])) := fun tq kq => G78 tq (st79 _ kq)
  have G81 : Go p e below A0 (T79.setTop (mkF m 7 #[.val (.ref a)] [(.int (1 : Int32)), (.ref a)])) := fun tq kq => G80 tq (by
    refine XS.iconst X79.here hx rfl (hb hby d8_5) ?_
    show Steps p.tables e below (T79.setTop (mkF m 6 #[.val (.ref a)] [(.int (1 : Int32)), (.int (0 : Int32)), (.ref a)])) _
    refine XS.iadd X79.here hx rfl (hb hby d8_6) rfl ?_
    show Steps p.tables e below (T79.setTop (mkF m 7 #[.val (.ref a)] [(.int ((0 : Int32) + (1 : Int32))), (.ref a)])) _
    rw [show ((0 : Int32) + (1 : Int32)) = (1 : Int32) from (by decide : ((0 : Int32) + (1 : Int32)) = (1 : Int32))]
    show Steps p.tables e below (T79.setTop (mkF m 7 #[.val (.ref a)] [(.int (1 : Int32)), (.ref a)])) _
    exact kq)
  obtain ⟨cq82, q82, q82'⟩ := E.cell
  obtain ⟨_, _, ⟨T82, L82, k82, n82⟩, -, X82, ⟨Lc82, hQ82, l82, y82, z82⟩, st82⟩ := X79.privateBack hx (y := (⟨"java/util/ArrayList", "grow", "(I)[Ljava/lang/Object;"⟩ : MethodName)) hown (mvT hZ (hw _ (List.mem_of_getElem? (i := 71) rfl))) (mvT hZ (hw _ (List.mem_of_getElem? (i := 72) rfl))) (mvT hZ (hw _ (List.mem_of_getElem? (i := 74) rfl))) (Cond.privateMethod_at (mvP hZ (hw _ (List.mem_of_getElem? (i := 73) rfl)) (args := #[]))) (mvT hZ (hw _ (List.mem_of_getElem? (i := 75) rfl))) (by decide) (backOf (W := 0) (rm9 l Z a0 hw [] a da mc kd h0 n0 Z0 E ga F0 F1 F2 hold hSd hAd) hZ (hw _ (List.mem_of_getElem? (i := 75) rfl)) (hw _ (List.mem_of_getElem? (i := 2) rfl)) (by decide) (by decide)) (g := (mkF m 7 #[.val (.ref a)] [(.int (1 : Int32)), (.ref a)])) rfl (by rw [hml]; rfl) (Steps.refl _) (a := a) (by rw [e79]; exact q82) q82' (argsL := [(.int (1 : Int32))]) (rest := []) (lenOf pd_2 rfl) rfl (by show 2 * 0 + _ ≤ _; exact Nat.le_of_eq rfl) (hb hby d8_7) (fun _ _ => ⟨rfl, e79, (by decide : 0 + 1 ≤ _), (by decide : 0 + 10 ≤ _)⟩)
  dsimp only [Pt.U, Pt.locs, Pt.cells, Pt.slots] at X82 l82 y82 z82 st82 hQ82
  obtain rfl : k82 = 1 := y82
  obtain rfl : n82 = 10 := z82
  obtain ⟨gb82, kb82, rfl, N82q, K82, hs82, hg82, Fx82_0, Fx82_1, Fx82_2, Ab82, Ov82⟩ := hQ82
  have N82 : Fr n0 L82 := by rw [l82]; exact Fr.app N0 N82q
  have lt_a_gb82 : a < gb82 := Nat.lt_of_lt_of_le E.lt hs82
  have lt_da_gb82 : da < gb82 := Nat.lt_of_lt_of_le hAd0.lt hs82
  have sz_gb82 : h0.size ≤ gb82 := Nat.le_trans (Nat.le_refl h0.size) hs82
  have G83 : Go p e below A0 (T82.setTop (mkF m 10 #[.val (.ref a)] [(.ref gb82)])) := fun tq kq => G81 tq (st82.trans kq)
  obtain ⟨fs, hr, hrun, hended, hW, hsame⟩ := X82.leave (v := some (.ref gb82)) (fun h => by rw [Bd.returns] at h; cases h)
  refine ⟨_, _, (by rw [← hA0]; exact G83 _ (retOut X82 hx (t := (.array (.object "java/lang/Object"))) Bd.returns rfl (Or.inr (Or.inr (Or.inr (Or.inr ⟨rfl, rfl, rfl⟩)))) (hb hby d8_10) hr)), hrun, hended, _, _, rfl, ?_, ⟨_, rfl⟩, hW, hsame.mono (by decide) (by decide)⟩
  show Qg Z a mc h0 n0 _ T82.heap _
  exact ⟨gb82, kb82, rfl, N82, ((Keep.refl h0 [a]).trans K82 (allS (P := fun x => x ∈ [a] ∨ h0.size ≤ x) (Or.inl (List.mem_of_getElem? (i := 0) rfl)) all0)), sz_gb82, hg82, Fx82_0, Fx82_1, Fx82_2, Ab82, Ov82⟩
def Qa1 (Z : State) (a x : Addr) (r : Option Value) (mc : Int32) (h0 : Heap) (n0 : Nat) (v : Option Value) (h : Heap) (L : List Loc) : Prop := ∃ b kb, v = r ∧ Fr n0 L ∧ Keep h0 h [a] ∧ h0.size ≤ b ∧ n0 ≤ b ∧ Fld Z h a "java/util/AbstractList" "modCount" "I" (.int mc) ∧ Fld Z h a "java/util/ArrayList" "elementData" "[Ljava/lang/Object;" (.ref b) ∧ Fld Z h a "java/util/ArrayList" "size" "I" (.int (1 : Int32)) ∧ Arv Z h b kb (.object "java/lang/Object") (10 : Int32) [(.ref x), .null, .null, .null, .null, .null, .null, .null, .null, .null] .null ∧ Ovr Z kb "java/lang/Object"
def Qa2 (Z : State) (a b x y : Addr) (kb : ClassId) (r : Option Value) (mc : Int32) (h0 : Heap) (n0 : Nat) (v : Option Value) (h : Heap) (L : List Loc) : Prop := v = r ∧ Fr n0 L ∧ Keep h0 h [a, b] ∧ Fld Z h a "java/util/AbstractList" "modCount" "I" (.int mc) ∧ Fld Z h a "java/util/ArrayList" "elementData" "[Ljava/lang/Object;" (.ref b) ∧ Fld Z h a "java/util/ArrayList" "size" "I" (.int (2 : Int32)) ∧ Arv Z h b kb (.object "java/lang/Object") (10 : Int32) [(.ref x), (.ref y), .null, .null, .null, .null, .null, .null, .null, .null] .null
set_option maxRecDepth 65536 in
set_option maxHeartbeats 40000000 in
theorem rmA3a (l : Launch) (Z : State) (a0 : Array Value) (hw : ∀ d ∈ tables_1, d.before a0 Z = true) (ws : List Jvm.Cond) (a da x : Addr) (mc : Int32) (kd : ClassId) (h0 : Heap) (n0 : Nat) (Z0 : n0 ≤ h0.size) (E : Exa Z h0 a "java/util/ArrayList") (ga : n0 ≤ a) (F0 : Fld Z h0 a "java/util/AbstractList" "modCount" "I" (.int mc)) (F1 : Fld Z h0 a "java/util/ArrayList" "elementData" "[Ljava/lang/Object;" (.ref da)) (F2 : Fld Z h0 a "java/util/ArrayList" "size" "I" (.int (0 : Int32))) (hold : Old Z n0 h0) (hSd : Sta Z Z.heap "java/util/ArrayList" "DEFAULTCAPACITY_EMPTY_ELEMENTDATA" "[Ljava/lang/Object;" (.ref da)) (hAd : Arv Z Z.heap da kd (.object "java/lang/Object") (0 : Int32) [] .null) (Ex : Exa Z h0 x "com/example/ludarc/ludarc/engine/Variable") (hax : a ≠ x) :
    MetFree l (⟨"java/util/ArrayList", "add", "(Ljava/lang/Object;[Ljava/lang/Object;I)V"⟩ : MethodName) (head1 (Jvm.Cond.code (⟨"java/util/ArrayList", "add", "(Ljava/lang/Object;[Ljava/lang/Object;I)V"⟩ : MethodName) jdk_38_method_24_code 4 none :: ws) ({ frames := 3, cells := 1, slots := 10, locals := 41 } : Room)) (fun aa UU => aa = #[(.ref a), (.ref x), (.ref da), (.int (0 : Int32))] ∧ Z.Warmed39 UU.vm ∧ UU.heap = h0) (fun _ _ _ _ _ => True) (fun _ UU oo U' => ∃ v L, oo = .returned v ∧ Qa1 Z a x none mc h0 n0 v U'.heap L ∧ FrameEnd UU oo U' L ({ frames := 3, cells := 1, slots := 10, locals := 41 } : Room).cells ({ frames := 3, cells := 1, slots := 10, locals := 41 } : Room).slots) := by
  refine MetFree.of_bodySF (plainFor_of_name pn_2) hisR ?_
  intro p e s m args below meth c s₁ Bd hml0 hP hK
  obtain ⟨rfl, hZ, hh⟩ := hP
  have hx := Bd.exec
  have hby := Bd.bytes
  have hml : c.maxLocals = 4 := hml0
  have hown : s.vm.findClass "java/util/ArrayList" = some m.cls := findClass_of_methodNamed Bd.named
  have hnm := (name_of_methodNamed Bd.named Bd.method).1
  have X0 : Stand p l e ({ frames := 3, cells := 1, slots := 10, locals := 41 } : Room) s m #[(.ref a), (.ref x), (.ref da), (.int (0 : Int32))] below meth c s₁ [] 0 0 := Stand.of_body Bd
  have e0 : s₁.heap = h0 := by rw [← hh, Bd.state]; rfl
  have N0 := Fr.nil n0
  obtain ⟨A0, hA0⟩ : ∃ A, A = s₁.setTop (entryFrame m #[(.ref a), (.ref x), (.ref da), (.int (0 : Int32))] 4) := ⟨_, rfl⟩
  have G0 : Go p e below A0 (s₁.setTop (mkF m 0 #[.val (.ref a), .val (.ref x), .val (.ref da), .val (.int (0 : Int32))] [])) := fun tq kq => by rw [hA0]; exact castTop (ef_rmA3a m a x da (0 : Int32)) kq
  have hAd0 := hAd.ext hold.2
  have G84 : Go p e below A0 (s₁.setTop (mkF m 2 #[.val (.ref a), .val (.ref x), .val (.ref da), .val (.int (0 : Int32))] [(.ref da), (.int (0 : Int32))])) := fun tq kq => G0 tq (by
    refine XS.iloadN X0.here hx rfl (hb hby d7_0) rfl ?_
    show Steps p.tables e below (s₁.setTop (mkF m 1 #[.val (.ref a), .val (.ref x), .val (.ref da), .val (.int (0 : Int32))] [(.int (0 : Int32))])) _
    refine XS.aloadN X0.here hx rfl (hb hby d7_1) rfl rfl ?_
    show Steps p.tables e below (s₁.setTop (mkF m 2 #[.val (.ref a), .val (.ref x), .val (.ref da), .val (.int (0 : Int32))] [(.ref da), (.int (0 : Int32))])) _
    exact kq)
  obtain ⟨cl85, Ar85, q85, S85, M85, H85, Gf85⟩ := id hAd0
  have G86 : Go p e below A0 (s₁.setTop (mkF m 7 #[.val (.ref a), .val (.ref x), .val (.ref da), .val (.int (0 : Int32))] [(.ref a)])) := fun tq kq => G84 tq (by
    refine X0.arraylength hx (by rw [e0]; exact Ar85.1) (State.isArrayOf_alike hZ.alike Ar85.2.1) (g := (mkF m 2 #[.val (.ref a), .val (.ref x), .val (.ref da), .val (.int (0 : Int32))] [(.ref da), (.int (0 : Int32))])) rfl rfl (hb hby d7_2) _ ?_
    rw [len_of S85 M85]
    show Steps p.tables e below (s₁.setTop (mkF m 3 #[.val (.ref a), .val (.ref x), .val (.ref da), .val (.int (0 : Int32))] [(.int (0 : Int32)), (.int (0 : Int32))])) _
    refine XS.icmpNo X0.here hx rfl (hb hby d7_3) rfl (by decide) ?_
    show Steps p.tables e below (s₁.setTop (mkF m 6 #[.val (.ref a), .val (.ref x), .val (.ref da), .val (.int (0 : Int32))] [])) _
    refine XS.aloadN X0.here hx rfl (hb hby d7_6) rfl rfl ?_
    show Steps p.tables e below (s₁.setTop (mkF m 7 #[.val (.ref a), .val (.ref x), .val (.ref da), .val (.int (0 : Int32))] [(.ref a)])) _
    exact kq)
  obtain ⟨cq87, q87, q87'⟩ := E.cell
  obtain ⟨_, _, ⟨T87, L87, k87, n87⟩, -, X87, ⟨Lc87, hQ87, l87, y87, z87⟩, st87⟩ := X0.privateBack hx (y := (⟨"java/util/ArrayList", "grow", "()[Ljava/lang/Object;"⟩ : MethodName)) hown (mvT hZ (hw _ (List.mem_of_getElem? (i := 66) rfl))) (mvT hZ (hw _ (List.mem_of_getElem? (i := 67) rfl))) (mvT hZ (hw _ (List.mem_of_getElem? (i := 69) rfl))) (Cond.privateMethod_at (mvP hZ (hw _ (List.mem_of_getElem? (i := 68) rfl)) (args := #[]))) (mvT hZ (hw _ (List.mem_of_getElem? (i := 70) rfl))) (by decide) (backOf (W := 0) (rm8 l Z a0 hw [] a da mc kd h0 n0 Z0 E ga F0 F1 F2 hold hSd hAd) hZ (hw _ (List.mem_of_getElem? (i := 70) rfl)) (hw _ (List.mem_of_getElem? (i := 2) rfl)) (by decide) (by decide)) (g := (mkF m 7 #[.val (.ref a), .val (.ref x), .val (.ref da), .val (.int (0 : Int32))] [(.ref a)])) rfl (by rw [hml]; rfl) (Steps.refl _) (a := a) (by rw [e0]; exact q87) q87' (argsL := []) (rest := []) (lenOf pd_3 rfl) rfl (by show 2 * 0 + _ ≤ _; exact Nat.le_of_eq rfl) (hb hby d7_7) (fun _ _ => ⟨rfl, e0, (by decide : 0 + 1 ≤ _), (by decide : 0 + 10 ≤ _)⟩)
  dsimp only [Pt.U, Pt.locs, Pt.cells, Pt.slots] at X87 l87 y87 z87 st87 hQ87
  obtain rfl : k87 = 1 := y87
  obtain rfl : n87 = 10 := z87
  obtain ⟨gb87, kb87, rfl, N87q, K87, hs87, hg87, Fx87_0, Fx87_1, Fx87_2, Ab87, Ov87⟩ := hQ87
  have N87 : Fr n0 L87 := by rw [l87]; exact Fr.app N0 N87q
  have lt_a_gb87 : a < gb87 := Nat.lt_of_lt_of_le E.lt hs87
  have lt_da_gb87 : da < gb87 := Nat.lt_of_lt_of_le hAd0.lt hs87
  have lt_x_gb87 : x < gb87 := Nat.lt_of_lt_of_le Ex.lt hs87
  have sz_gb87 : h0.size ≤ gb87 := Nat.le_trans (Nat.le_refl h0.size) hs87
  have G88 : Go p e below A0 (T87.setTop (mkF m 10 #[.val (.ref a), .val (.ref x), .val (.ref da), .val (.int (0 : Int32))] [(.ref gb87)])) := fun tq kq => G86 tq (st87.trans kq)
  have G89 : Go p e below A0 (T87.setTop (mkF m 14 #[.val (.ref a), .val (.ref x), .val (.ref gb87), .val (.int (0 : Int32))] [(.ref x), (.int (0 : Int32)), (.ref gb87)])) := fun tq kq => G88 tq (by
    refine XS.astoreN X87.here hx rfl (hb hby d7_10) rfl rfl (l' := #[.val (.ref a), .val (.ref x), .val (.ref gb87), .val (.int (0 : Int32))]) rfl ?_
    show Steps p.tables e below (T87.setTop (mkF m 11 #[.val (.ref a), .val (.ref x), .val (.ref gb87), .val (.int (0 : Int32))] [])) _
    refine XS.aloadN X87.here hx rfl (hb hby d7_11) rfl rfl ?_
    show Steps p.tables e below (T87.setTop (mkF m 12 #[.val (.ref a), .val (.ref x), .val (.ref gb87), .val (.int (0 : Int32))] [(.ref gb87)])) _
    refine XS.iloadN X87.here hx rfl (hb hby d7_12) rfl ?_
    show Steps p.tables e below (T87.setTop (mkF m 13 #[.val (.ref a), .val (.ref x), .val (.ref gb87), .val (.int (0 : Int32))] [(.int (0 : Int32)), (.ref gb87)])) _
    refine XS.aloadN X87.here hx rfl (hb hby d7_13) rfl rfl ?_
    show Steps p.tables e below (T87.setTop (mkF m 14 #[.val (.ref a), .val (.ref x), .val (.ref gb87), .val (.int (0 : Int32))] [(.ref x), (.int (0 : Int32)), (.ref gb87)])) _
    exact kq)
  obtain ⟨cl90, Ar90, q90, S90, M90, H90, Gf90⟩ := id Ab87
  have hi91 : ¬ ((0 : Int32) < 0 ∨ cl90.slots.size ≤ ((0 : Int32)).toNatClampNeg) := (inb_of S90 ⟨by decide, by decide⟩)
  have f93 := (Ex.keep K87)
  obtain ⟨T92, h92, X92, e92, W92, st92⟩ := stR X87 hx hZ rfl Ar90 (j := (0 : Int32)) hi91 rfl (Sto.ofV Ar90 q90 Ov87 (Ins.of_exa f93 (hw _ (List.mem_of_getElem? (i := 82) rfl)))) (g := (mkF m 14 #[.val (.ref a), .val (.ref x), .val (.ref gb87), .val (.int (0 : Int32))] [(.ref x), (.int (0 : Int32)), (.ref gb87)])) rfl rfl (hb hby d7_14)
  have N92 := Fr.snoc X92 N87 hg87
  have V92 := Arv.set Ar90 q90 S90 M90 H90 Gf90 rfl W92 0 rfl (Nat.le_of_ble_eq_true rfl)
  have V92' : Arv Z h92 gb87 kb87 (.object "java/lang/Object") (10 : Int32) [(.ref x), .null, .null, .null, .null, .null, .null, .null, .null, .null] .null := by exact V92
  have G94 : Go p e below A0 (T92.setTop (mkF m 15 #[.val (.ref a), .val (.ref x), .val (.ref gb87), .val (.int (0 : Int32))] [])) := fun tq kq => G89 tq (st92 _ kq)
  have G95 : Go p e below A0 (T92.setTop (mkF m 19 #[.val (.ref a), .val (.ref x), .val (.ref gb87), .val (.int (0 : Int32))] [(.int (1 : Int32)), (.ref a)])) := fun tq kq => G94 tq (by
    refine XS.aloadN X92.here hx rfl (hb hby d7_15) rfl rfl ?_
    show Steps p.tables e below (T92.setTop (mkF m 16 #[.val (.ref a), .val (.ref x), .val (.ref gb87), .val (.int (0 : Int32))] [(.ref a)])) _
    refine XS.iloadN X92.here hx rfl (hb hby d7_16) rfl ?_
    show Steps p.tables e below (T92.setTop (mkF m 17 #[.val (.ref a), .val (.ref x), .val (.ref gb87), .val (.int (0 : Int32))] [(.int (0 : Int32)), (.ref a)])) _
    refine XS.iconst X92.here hx rfl (hb hby d7_17) ?_
    show Steps p.tables e below (T92.setTop (mkF m 18 #[.val (.ref a), .val (.ref x), .val (.ref gb87), .val (.int (0 : Int32))] [(.int (1 : Int32)), (.int (0 : Int32)), (.ref a)])) _
    refine XS.iadd X92.here hx rfl (hb hby d7_18) rfl ?_
    show Steps p.tables e below (T92.setTop (mkF m 19 #[.val (.ref a), .val (.ref x), .val (.ref gb87), .val (.int (0 : Int32))] [(.int ((0 : Int32) + (1 : Int32))), (.ref a)])) _
    rw [show ((0 : Int32) + (1 : Int32)) = (1 : Int32) from (by decide : ((0 : Int32) + (1 : Int32)) = (1 : Int32))]
    show Steps p.tables e below (T92.setTop (mkF m 19 #[.val (.ref a), .val (.ref x), .val (.ref gb87), .val (.int (0 : Int32))] [(.int (1 : Int32)), (.ref a)])) _
    exact kq)
  have f96 := ((E.keep K87).wr W92)
  have f97 := (Fx87_2.other W92 (Or.inl (Nat.ne_of_lt lt_a_gb87)))
  obtain ⟨T98, h98, X98, e98, W98, st98⟩ := putF X92 hx hZ hown (host := "") (Or.inl (hw _ (List.mem_of_getElem? (i := 59) rfl))) Via.refl e92 f97 f96 (Or.inl (hw _ (List.mem_of_getElem? (i := 60) rfl))) (hw _ (List.mem_of_getElem? (i := 1) rfl)) (ty := .int) (by decide) rfl rfl (g := (mkF m 19 #[.val (.ref a), .val (.ref x), .val (.ref gb87), .val (.int (0 : Int32))] [(.int (1 : Int32)), (.ref a)])) rfl rfl (hb hby d7_19)
  have N98 := Fr.snoc X98 N92 ga
  have fw98 := f97.same W98
  have G99 : Go p e below A0 (T98.setTop (mkF m 22 #[.val (.ref a), .val (.ref x), .val (.ref gb87), .val (.int (0 : Int32))] [])) := fun tq kq => G95 tq (st98 _ kq)
  have f100 := ((Fx87_0.other W92 (Or.inl (Nat.ne_of_lt lt_a_gb87))).other W98 (Or.inr (slot_ne (Or.inl (hw _ (List.mem_of_getElem? (i := 22) rfl))) (Or.inl (hw _ (List.mem_of_getElem? (i := 60) rfl))) (by decide) (t := .int) (t' := .int) (by decide) (by decide))))
  have f101 := ((Fx87_1.other W92 (Or.inl (Nat.ne_of_lt lt_a_gb87))).other W98 (Or.inr (slot_ne (Or.inl (hw _ (List.mem_of_getElem? (i := 25) rfl))) (Or.inl (hw _ (List.mem_of_getElem? (i := 60) rfl))) (by decide) (t := (.array (.object "java/lang/Object"))) (t' := .int) (by decide) (by decide))))
  have f102 := (V92'.other W98 (Ne.symm (Nat.ne_of_lt lt_a_gb87)))
  obtain ⟨fs, hr, hrun, hended, hW, hsame⟩ := X98.leave (v := none) (fun _ => rfl)
  refine ⟨_, _, (by rw [← hA0]; exact G99 _ (X98.returnOut hx Bd.returns (hb hby d7_22) hr)), hrun, hended, _, _, rfl, ?_, ⟨_, rfl⟩, hW, hsame.mono (by decide) (by decide)⟩
  show Qa1 Z a x none mc h0 n0 _ T98.heap _
  rw [e98]
  exact ⟨gb87, kb87, rfl, N98, ((((Keep.refl h0 [a]).trans K87 (allS (P := fun x => x ∈ [a] ∨ h0.size ≤ x) (Or.inl (List.mem_of_getElem? (i := 0) rfl)) all0)).wr W92 (Or.inr sz_gb87)).wr W98 (Or.inl (List.mem_of_getElem? (i := 0) rfl))), sz_gb87, hg87, f100, f101, fw98, f102, Ov87⟩
set_option maxRecDepth 65536 in
set_option maxHeartbeats 40000000 in
theorem rmA3b (l : Launch) (Z : State) (a0 : Array Value) (hw : ∀ d ∈ tables_1, d.before a0 Z = true) (ws : List Jvm.Cond) (a b x y : Addr) (mc : Int32) (kb : ClassId) (h0 : Heap) (n0 : Nat) (Z0 : n0 ≤ h0.size) (E : Exa Z h0 a "java/util/ArrayList") (ga : n0 ≤ a) (F0 : Fld Z h0 a "java/util/AbstractList" "modCount" "I" (.int mc)) (F1 : Fld Z h0 a "java/util/ArrayList" "elementData" "[Ljava/lang/Object;" (.ref b)) (F2 : Fld Z h0 a "java/util/ArrayList" "size" "I" (.int (1 : Int32))) (A : Arv Z h0 b kb (.object "java/lang/Object") (10 : Int32) [(.ref x), .null, .null, .null, .null, .null, .null, .null, .null, .null] .null) (Ov : Ovr Z kb "java/lang/Object") (gb : n0 ≤ b) (hab : a ≠ b) (Ey : Exa Z h0 y "com/example/ludarc/ludarc/engine/Variable") :
    MetFree l (⟨"java/util/ArrayList", "add", "(Ljava/lang/Object;[Ljava/lang/Object;I)V"⟩ : MethodName) (head1 (Jvm.Cond.code (⟨"java/util/ArrayList", "add", "(Ljava/lang/Object;[Ljava/lang/Object;I)V"⟩ : MethodName) jdk_38_method_24_code 4 none :: ws) ({ frames := 0, cells := 0, slots := 0, locals := 0 } : Room)) (fun aa UU => aa = #[(.ref a), (.ref y), (.ref b), (.int (1 : Int32))] ∧ Z.Warmed39 UU.vm ∧ UU.heap = h0) (fun _ _ _ _ _ => True) (fun _ UU oo U' => ∃ v L, oo = .returned v ∧ Qa2 Z a b x y kb none mc h0 n0 v U'.heap L ∧ FrameEnd UU oo U' L ({ frames := 0, cells := 0, slots := 0, locals := 0 } : Room).cells ({ frames := 0, cells := 0, slots := 0, locals := 0 } : Room).slots) := by
  refine MetFree.of_bodySF (plainFor_of_name pn_2) hisR ?_
  intro p e s m args below meth c s₁ Bd hml0 hP hK
  obtain ⟨rfl, hZ, hh⟩ := hP
  have hx := Bd.exec
  have hby := Bd.bytes
  have hml : c.maxLocals = 4 := hml0
  have hown : s.vm.findClass "java/util/ArrayList" = some m.cls := findClass_of_methodNamed Bd.named
  have hnm := (name_of_methodNamed Bd.named Bd.method).1
  have X0 : Stand p l e ({ frames := 0, cells := 0, slots := 0, locals := 0 } : Room) s m #[(.ref a), (.ref y), (.ref b), (.int (1 : Int32))] below meth c s₁ [] 0 0 := Stand.of_body Bd
  have e0 : s₁.heap = h0 := by rw [← hh, Bd.state]; rfl
  have N0 := Fr.nil n0
  obtain ⟨A0, hA0⟩ : ∃ A, A = s₁.setTop (entryFrame m #[(.ref a), (.ref y), (.ref b), (.int (1 : Int32))] 4) := ⟨_, rfl⟩
  have G0 : Go p e below A0 (s₁.setTop (mkF m 0 #[.val (.ref a), .val (.ref y), .val (.ref b), .val (.int (1 : Int32))] [])) := fun tq kq => by rw [hA0]; exact castTop (ef_rmA3b m a y b (1 : Int32)) kq
  have G103 : Go p e below A0 (s₁.setTop (mkF m 2 #[.val (.ref a), .val (.ref y), .val (.ref b), .val (.int (1 : Int32))] [(.ref b), (.int (1 : Int32))])) := fun tq kq => G0 tq (by
    refine XS.iloadN X0.here hx rfl (hb hby d7_0) rfl ?_
    show Steps p.tables e below (s₁.setTop (mkF m 1 #[.val (.ref a), .val (.ref y), .val (.ref b), .val (.int (1 : Int32))] [(.int (1 : Int32))])) _
    refine XS.aloadN X0.here hx rfl (hb hby d7_1) rfl rfl ?_
    show Steps p.tables e below (s₁.setTop (mkF m 2 #[.val (.ref a), .val (.ref y), .val (.ref b), .val (.int (1 : Int32))] [(.ref b), (.int (1 : Int32))])) _
    exact kq)
  obtain ⟨cl104, Ar104, q104, S104, M104, H104, Gf104⟩ := id A
  have G105 : Go p e below A0 (s₁.setTop (mkF m 14 #[.val (.ref a), .val (.ref y), .val (.ref b), .val (.int (1 : Int32))] [(.ref y), (.int (1 : Int32)), (.ref b)])) := fun tq kq => G103 tq (by
    refine X0.arraylength hx (by rw [e0]; exact Ar104.1) (State.isArrayOf_alike hZ.alike Ar104.2.1) (g := (mkF m 2 #[.val (.ref a), .val (.ref y), .val (.ref b), .val (.int (1 : Int32))] [(.ref b), (.int (1 : Int32))])) rfl rfl (hb hby d7_2) _ ?_
    rw [len_of S104 M104]
    show Steps p.tables e below (s₁.setTop (mkF m 3 #[.val (.ref a), .val (.ref y), .val (.ref b), .val (.int (1 : Int32))] [(.int (10 : Int32)), (.int (1 : Int32))])) _
    refine XS.icmpYes X0.here hx rfl (pc0 := 3) (pc' := 11) rfl (hb hby d7_3) rfl (by decide) (by decide) (by decide) ?_
    show Steps p.tables e below (s₁.setTop (mkF m 11 #[.val (.ref a), .val (.ref y), .val (.ref b), .val (.int (1 : Int32))] [])) _
    refine XS.aloadN X0.here hx rfl (hb hby d7_11) rfl rfl ?_
    show Steps p.tables e below (s₁.setTop (mkF m 12 #[.val (.ref a), .val (.ref y), .val (.ref b), .val (.int (1 : Int32))] [(.ref b)])) _
    refine XS.iloadN X0.here hx rfl (hb hby d7_12) rfl ?_
    show Steps p.tables e below (s₁.setTop (mkF m 13 #[.val (.ref a), .val (.ref y), .val (.ref b), .val (.int (1 : Int32))] [(.int (1 : Int32)), (.ref b)])) _
    refine XS.aloadN X0.here hx rfl (hb hby d7_13) rfl rfl ?_
    show Steps p.tables e below (s₁.setTop (mkF m 14 #[.val (.ref a), .val (.ref y), .val (.ref b), .val (.int (1 : Int32))] [(.ref y), (.int (1 : Int32)), (.ref b)])) _
    exact kq)
  obtain ⟨cl106, Ar106, q106, S106, M106, H106, Gf106⟩ := id A
  have hi107 : ¬ ((1 : Int32) < 0 ∨ cl106.slots.size ≤ ((1 : Int32)).toNatClampNeg) := (inb_of S106 ⟨by decide, by decide⟩)
  obtain ⟨T108, h108, X108, e108, W108, st108⟩ := stR X0 hx hZ e0 Ar106 (j := (1 : Int32)) hi107 rfl (Sto.ofV Ar106 q106 Ov (Ins.of_exa Ey (hw _ (List.mem_of_getElem? (i := 82) rfl)))) (g := (mkF m 14 #[.val (.ref a), .val (.ref y), .val (.ref b), .val (.int (1 : Int32))] [(.ref y), (.int (1 : Int32)), (.ref b)])) rfl rfl (hb hby d7_14)
  have N108 := Fr.snoc X108 N0 gb
  have V108 := Arv.set Ar106 q106 S106 M106 H106 Gf106 rfl W108 1 rfl (Nat.le_of_ble_eq_true rfl)
  have V108' : Arv Z h108 b kb (.object "java/lang/Object") (10 : Int32) [(.ref x), (.ref y), .null, .null, .null, .null, .null, .null, .null, .null] .null := by exact V108
  have G109 : Go p e below A0 (T108.setTop (mkF m 15 #[.val (.ref a), .val (.ref y), .val (.ref b), .val (.int (1 : Int32))] [])) := fun tq kq => G105 tq (st108 _ kq)
  have G110 : Go p e below A0 (T108.setTop (mkF m 19 #[.val (.ref a), .val (.ref y), .val (.ref b), .val (.int (1 : Int32))] [(.int (2 : Int32)), (.ref a)])) := fun tq kq => G109 tq (by
    refine XS.aloadN X108.here hx rfl (hb hby d7_15) rfl rfl ?_
    show Steps p.tables e below (T108.setTop (mkF m 16 #[.val (.ref a), .val (.ref y), .val (.ref b), .val (.int (1 : Int32))] [(.ref a)])) _
    refine XS.iloadN X108.here hx rfl (hb hby d7_16) rfl ?_
    show Steps p.tables e below (T108.setTop (mkF m 17 #[.val (.ref a), .val (.ref y), .val (.ref b), .val (.int (1 : Int32))] [(.int (1 : Int32)), (.ref a)])) _
    refine XS.iconst X108.here hx rfl (hb hby d7_17) ?_
    show Steps p.tables e below (T108.setTop (mkF m 18 #[.val (.ref a), .val (.ref y), .val (.ref b), .val (.int (1 : Int32))] [(.int (1 : Int32)), (.int (1 : Int32)), (.ref a)])) _
    refine XS.iadd X108.here hx rfl (hb hby d7_18) rfl ?_
    show Steps p.tables e below (T108.setTop (mkF m 19 #[.val (.ref a), .val (.ref y), .val (.ref b), .val (.int (1 : Int32))] [(.int ((1 : Int32) + (1 : Int32))), (.ref a)])) _
    rw [show ((1 : Int32) + (1 : Int32)) = (2 : Int32) from (by decide : ((1 : Int32) + (1 : Int32)) = (2 : Int32))]
    show Steps p.tables e below (T108.setTop (mkF m 19 #[.val (.ref a), .val (.ref y), .val (.ref b), .val (.int (1 : Int32))] [(.int (2 : Int32)), (.ref a)])) _
    exact kq)
  have f111 := (E.wr W108)
  have f112 := (F2.other W108 (Or.inl hab))
  obtain ⟨T113, h113, X113, e113, W113, st113⟩ := putF X108 hx hZ hown (host := "") (Or.inl (hw _ (List.mem_of_getElem? (i := 59) rfl))) Via.refl e108 f112 f111 (Or.inl (hw _ (List.mem_of_getElem? (i := 60) rfl))) (hw _ (List.mem_of_getElem? (i := 1) rfl)) (ty := .int) (by decide) rfl rfl (g := (mkF m 19 #[.val (.ref a), .val (.ref y), .val (.ref b), .val (.int (1 : Int32))] [(.int (2 : Int32)), (.ref a)])) rfl rfl (hb hby d7_19)
  have N113 := Fr.snoc X113 N108 ga
  have fw113 := f112.same W113
  have G114 : Go p e below A0 (T113.setTop (mkF m 22 #[.val (.ref a), .val (.ref y), .val (.ref b), .val (.int (1 : Int32))] [])) := fun tq kq => G110 tq (st113 _ kq)
  have f115 := ((F0.other W108 (Or.inl hab)).other W113 (Or.inr (slot_ne (Or.inl (hw _ (List.mem_of_getElem? (i := 22) rfl))) (Or.inl (hw _ (List.mem_of_getElem? (i := 60) rfl))) (by decide) (t := .int) (t' := .int) (by decide) (by decide))))
  have f116 := ((F1.other W108 (Or.inl hab)).other W113 (Or.inr (slot_ne (Or.inl (hw _ (List.mem_of_getElem? (i := 25) rfl))) (Or.inl (hw _ (List.mem_of_getElem? (i := 60) rfl))) (by decide) (t := (.array (.object "java/lang/Object"))) (t' := .int) (by decide) (by decide))))
  have f117 := (V108'.other W113 (Ne.symm hab))
  obtain ⟨fs, hr, hrun, hended, hW, hsame⟩ := X113.leave (v := none) (fun _ => rfl)
  refine ⟨_, _, (by rw [← hA0]; exact G114 _ (X113.returnOut hx Bd.returns (hb hby d7_22) hr)), hrun, hended, _, _, rfl, ?_, ⟨_, rfl⟩, hW, hsame.mono (by decide) (by decide)⟩
  show Qa2 Z a b x y kb none mc h0 n0 _ T113.heap _
  rw [e113]
  exact ⟨rfl, N113, (((Keep.refl h0 [a, b]).wr W108 (Or.inl (List.mem_of_getElem? (i := 1) rfl))).wr W113 (Or.inl (List.mem_of_getElem? (i := 0) rfl))), f115, f116, fw113, f117⟩
set_option maxRecDepth 65536 in
set_option maxHeartbeats 40000000 in
theorem rmA1a (l : Launch) (Z : State) (a0 : Array Value) (hw : ∀ d ∈ tables_1, d.before a0 Z = true) (ws : List Jvm.Cond) (a da x : Addr) (mc : Int32) (kd : ClassId) (h0 : Heap) (n0 : Nat) (Z0 : n0 ≤ h0.size) (E : Exa Z h0 a "java/util/ArrayList") (ga : n0 ≤ a) (F0 : Fld Z h0 a "java/util/AbstractList" "modCount" "I" (.int mc)) (F1 : Fld Z h0 a "java/util/ArrayList" "elementData" "[Ljava/lang/Object;" (.ref da)) (F2 : Fld Z h0 a "java/util/ArrayList" "size" "I" (.int (0 : Int32))) (hold : Old Z n0 h0) (hSd : Sta Z Z.heap "java/util/ArrayList" "DEFAULTCAPACITY_EMPTY_ELEMENTDATA" "[Ljava/lang/Object;" (.ref da)) (hAd : Arv Z Z.heap da kd (.object "java/lang/Object") (0 : Int32) [] .null) (Ex : Exa Z h0 x "com/example/ludarc/ludarc/engine/Variable") (hax : a ≠ x) :
    MetFree l (⟨"java/util/ArrayList", "add", "(Ljava/lang/Object;)Z"⟩ : MethodName) (head1 (Jvm.Cond.code (⟨"java/util/ArrayList", "add", "(Ljava/lang/Object;)Z"⟩ : MethodName) jdk_38_method_25_code 2 (some .boolean) :: ws) ({ frames := 4, cells := 1, slots := 10, locals := 56 } : Room)) (fun aa UU => aa = #[(.ref a), (.ref x)] ∧ Z.Warmed39 UU.vm ∧ UU.heap = h0) (fun _ _ _ _ _ => True) (fun _ UU oo U' => ∃ v L, oo = .returned v ∧ Qa1 Z a x (some (.int 1)) (mc + (1 : Int32)) h0 n0 v U'.heap L ∧ FrameEnd UU oo U' L ({ frames := 4, cells := 1, slots := 10, locals := 56 } : Room).cells ({ frames := 4, cells := 1, slots := 10, locals := 56 } : Room).slots) := by
  refine MetFree.of_bodySF (plainFor_of_name pn_2) hisR ?_
  intro p e s m args below meth c s₁ Bd hml0 hP hK
  obtain ⟨rfl, hZ, hh⟩ := hP
  have hx := Bd.exec
  have hby := Bd.bytes
  have hml : c.maxLocals = 2 := hml0
  have hown : s.vm.findClass "java/util/ArrayList" = some m.cls := findClass_of_methodNamed Bd.named
  have hnm := (name_of_methodNamed Bd.named Bd.method).1
  have X0 : Stand p l e ({ frames := 4, cells := 1, slots := 10, locals := 56 } : Room) s m #[(.ref a), (.ref x)] below meth c s₁ [] 0 0 := Stand.of_body Bd
  have e0 : s₁.heap = h0 := by rw [← hh, Bd.state]; rfl
  have N0 := Fr.nil n0
  obtain ⟨A0, hA0⟩ : ∃ A, A = s₁.setTop (entryFrame m #[(.ref a), (.ref x)] 2) := ⟨_, rfl⟩
  have G0 : Go p e below A0 (s₁.setTop (mkF m 0 #[.val (.ref a), .val (.ref x)] [])) := fun tq kq => by rw [hA0]; exact castTop (ef_rmA1a m a x) kq
  have hAd0 := hAd.ext hold.2
  have G118 : Go p e below A0 (s₁.setTop (mkF m 2 #[.val (.ref a), .val (.ref x)] [(.ref a), (.ref a)])) := fun tq kq => G0 tq (by
    refine XS.aloadN X0.here hx rfl (hb hby d6_0) rfl rfl ?_
    show Steps p.tables e below (s₁.setTop (mkF m 1 #[.val (.ref a), .val (.ref x)] [(.ref a)])) _
    refine XS.dup X0.here hx rfl (hb hby d6_1) rfl rfl ?_
    show Steps p.tables e below (s₁.setTop (mkF m 2 #[.val (.ref a), .val (.ref x)] [(.ref a), (.ref a)])) _
    exact kq)
  obtain ⟨T119, X119, e119, st119⟩ := getF X0 hx hZ hown (host := "") (Or.inl (hw _ (List.mem_of_getElem? (i := 57) rfl))) (Via.of (hw _ (List.mem_of_getElem? (i := 58) rfl))) e0 F0 (g := (mkF m 2 #[.val (.ref a), .val (.ref x)] [(.ref a), (.ref a)])) rfl rfl (hb hby d6_2)
  have G120 : Go p e below A0 (T119.setTop (mkF m 5 #[.val (.ref a), .val (.ref x)] [(.int mc), (.ref a)])) := fun tq kq => G118 tq (st119 _ kq)
  have G121 : Go p e below A0 (T119.setTop (mkF m 7 #[.val (.ref a), .val (.ref x)] [(.int (mc + (1 : Int32))), (.ref a)])) := fun tq kq => G120 tq (by
    refine XS.iconst X119.here hx rfl (hb hby d6_5) ?_
    show Steps p.tables e below (T119.setTop (mkF m 6 #[.val (.ref a), .val (.ref x)] [(.int (1 : Int32)), (.int mc), (.ref a)])) _
    refine XS.iadd X119.here hx rfl (hb hby d6_6) rfl ?_
    show Steps p.tables e below (T119.setTop (mkF m 7 #[.val (.ref a), .val (.ref x)] [(.int (mc + (1 : Int32))), (.ref a)])) _
    exact kq)
  obtain ⟨T122, h122, X122, e122, W122, st122⟩ := putF X119 hx hZ hown (host := "") (Or.inl (hw _ (List.mem_of_getElem? (i := 57) rfl))) (Via.of (hw _ (List.mem_of_getElem? (i := 58) rfl))) e119 F0 E (Or.inl (hw _ (List.mem_of_getElem? (i := 22) rfl))) (hw _ (List.mem_of_getElem? (i := 1) rfl)) (ty := .int) (by decide) rfl rfl (g := (mkF m 7 #[.val (.ref a), .val (.ref x)] [(.int (mc + (1 : Int32))), (.ref a)])) rfl rfl (hb hby d6_7)
  have N122 := Fr.snoc X122 N0 ga
  have fw122 := F0.same W122
  have G123 : Go p e below A0 (T122.setTop (mkF m 10 #[.val (.ref a), .val (.ref x)] [])) := fun tq kq => G121 tq (st122 _ kq)
  have G124 : Go p e below A0 (T122.setTop (mkF m 13 #[.val (.ref a), .val (.ref x)] [(.ref a), (.ref x), (.ref a)])) := fun tq kq => G123 tq (by
    refine XS.aloadN X122.here hx rfl (hb hby d6_10) rfl rfl ?_
    show Steps p.tables e below (T122.setTop (mkF m 11 #[.val (.ref a), .val (.ref x)] [(.ref a)])) _
    refine XS.aloadN X122.here hx rfl (hb hby d6_11) rfl rfl ?_
    show Steps p.tables e below (T122.setTop (mkF m 12 #[.val (.ref a), .val (.ref x)] [(.ref x), (.ref a)])) _
    refine XS.aloadN X122.here hx rfl (hb hby d6_12) rfl rfl ?_
    show Steps p.tables e below (T122.setTop (mkF m 13 #[.val (.ref a), .val (.ref x)] [(.ref a), (.ref x), (.ref a)])) _
    exact kq)
  have f125 := (F1.other W122 (Or.inr (slot_ne (Or.inl (hw _ (List.mem_of_getElem? (i := 25) rfl))) (Or.inl (hw _ (List.mem_of_getElem? (i := 22) rfl))) (by decide) (t := (.array (.object "java/lang/Object"))) (t' := .int) (by decide) (by decide))))
  obtain ⟨T126, X126, e126, st126⟩ := getF X122 hx hZ hown (host := "") (Or.inl (hw _ (List.mem_of_getElem? (i := 24) rfl))) Via.refl e122 f125 (g := (mkF m 13 #[.val (.ref a), .val (.ref x)] [(.ref a), (.ref x), (.ref a)])) rfl rfl (hb hby d6_13)
  have G127 : Go p e below A0 (T126.setTop (mkF m 16 #[.val (.ref a), .val (.ref x)] [(.ref da), (.ref x), (.ref a)])) := fun tq kq => G124 tq (st126 _ kq)
  have G128 : Go p e below A0 (T126.setTop (mkF m 17 #[.val (.ref a), .val (.ref x)] [(.ref a), (.ref da), (.ref x), (.ref a)])) := fun tq kq => G127 tq (by
    refine XS.aloadN X126.here hx rfl (hb hby d6_16) rfl rfl ?_
    show Steps p.tables e below (T126.setTop (mkF m 17 #[.val (.ref a), .val (.ref x)] [(.ref a), (.ref da), (.ref x), (.ref a)])) _
    exact kq)
  have f129 := (F2.other W122 (Or.inr (slot_ne (Or.inl (hw _ (List.mem_of_getElem? (i := 60) rfl))) (Or.inl (hw _ (List.mem_of_getElem? (i := 22) rfl))) (by decide) (t := .int) (t' := .int) (by decide) (by decide))))
  obtain ⟨T130, X130, e130, st130⟩ := getF X126 hx hZ hown (host := "") (Or.inl (hw _ (List.mem_of_getElem? (i := 59) rfl))) Via.refl e126 f129 (g := (mkF m 17 #[.val (.ref a), .val (.ref x)] [(.ref a), (.ref da), (.ref x), (.ref a)])) rfl rfl (hb hby d6_17)
  have G131 : Go p e below A0 (T130.setTop (mkF m 20 #[.val (.ref a), .val (.ref x)] [(.int (0 : Int32)), (.ref da), (.ref x), (.ref a)])) := fun tq kq => G128 tq (st130 _ kq)
  have f133 := (Nat.le_trans Z0 (Keep.of_wr W122).1)
  have f134 := (E.wr W122)
  have f135 := (Ex.wr W122)
  have f136 := (hold.wr W122 ga)
  have f137 := (Nat.le_trans (Nat.le_refl h0.size) (Keep.of_wr W122).1)
  obtain ⟨cq132, q132, q132'⟩ := f134.cell
  obtain ⟨_, _, ⟨T132, L132, k132, n132⟩, -, X132, ⟨Lc132, hQ132, l132, y132, z132⟩, st132⟩ := X130.privateBack hx (y := (⟨"java/util/ArrayList", "add", "(Ljava/lang/Object;[Ljava/lang/Object;I)V"⟩ : MethodName)) hown (mvT hZ (hw _ (List.mem_of_getElem? (i := 61) rfl))) (mvT hZ (hw _ (List.mem_of_getElem? (i := 62) rfl))) (mvT hZ (hw _ (List.mem_of_getElem? (i := 64) rfl))) (Cond.privateMethod_at (mvP hZ (hw _ (List.mem_of_getElem? (i := 63) rfl)) (args := #[]))) (mvT hZ (hw _ (List.mem_of_getElem? (i := 65) rfl))) (by decide) (backOf (W := 0) (rmA3a l Z a0 hw [] a da x (mc + (1 : Int32)) kd h122 n0 f133 f134 ga fw122 f125 f129 f136 hSd hAd f135 hax) hZ (hw _ (List.mem_of_getElem? (i := 65) rfl)) (hw _ (List.mem_of_getElem? (i := 2) rfl)) (by decide) (by decide)) (g := (mkF m 20 #[.val (.ref a), .val (.ref x)] [(.int (0 : Int32)), (.ref da), (.ref x), (.ref a)])) rfl (by rw [hml]; rfl) (Steps.refl _) (a := a) (by rw [e130]; exact q132) q132' (argsL := [(.ref x), (.ref da), (.int (0 : Int32))]) (rest := []) (lenOf pd_4 rfl) rfl (by show 2 * 0 + _ ≤ _; exact Nat.le_of_eq rfl) (hb hby d6_20) (fun _ _ => ⟨rfl, e130, (by decide : 0 + 1 ≤ _), (by decide : 0 + 10 ≤ _)⟩)
  dsimp only [Pt.U, Pt.locs, Pt.cells, Pt.slots] at X132 l132 y132 z132 st132 hQ132
  obtain rfl : k132 = 1 := y132
  obtain rfl : n132 = 10 := z132
  obtain ⟨gb132, kb132, rfl, N132q, K132, hs132, hg132, Fx132_0, Fx132_1, Fx132_2, Ab132, Ov132⟩ := hQ132
  have N132 : Fr n0 L132 := by rw [l132]; exact Fr.app N122 N132q
  have lt_a_gb132 : a < gb132 := Nat.lt_of_lt_of_le f134.lt hs132
  have lt_da_gb132 : da < gb132 := Nat.lt_of_lt_of_le (hAd0.other W122 (hold.ne hAd.lt ga)).lt hs132
  have lt_x_gb132 : x < gb132 := Nat.lt_of_lt_of_le f135.lt hs132
  have Fx132_0x : Fld Z T132.heap a "java/util/AbstractList" "modCount" "I" (.int (mc + (1 : Int32))) := Fx132_0
  have sz_gb132 : h0.size ≤ gb132 := Nat.le_trans f137 hs132
  have G138 : Go p e below A0 (T132.setTop (mkF m 23 #[.val (.ref a), .val (.ref x)] [])) := fun tq kq => G131 tq (st132.trans kq)
  have G139 : Go p e below A0 (T132.setTop (mkF m 24 #[.val (.ref a), .val (.ref x)] [(.int (1 : Int32))])) := fun tq kq => G138 tq (by
    refine XS.iconst X132.here hx rfl (hb hby d6_23) ?_
    show Steps p.tables e below (T132.setTop (mkF m 24 #[.val (.ref a), .val (.ref x)] [(.int (1 : Int32))])) _
    exact kq)
  obtain ⟨fs, hr, hrun, hended, hW, hsame⟩ := X132.leave (v := some (.int (nar .boolean (1 : Int32)))) (fun h => by rw [Bd.returns] at h; cases h)
  refine ⟨_, _, (by rw [← hA0]; exact G139 _ (retN X132 hx (t := .boolean) Bd.returns (by simp) (hb hby d6_24) hr)), hrun, hended, _, _, rfl, ?_, ⟨_, rfl⟩, hW, hsame.mono (by decide) (by decide)⟩
  show Qa1 Z a x (some (.int 1)) (mc + (1 : Int32)) h0 n0 _ T132.heap _
  exact ⟨gb132, kb132, rfl, N132, (((Keep.refl h0 [a]).wr W122 (Or.inl (List.mem_of_getElem? (i := 0) rfl))).trans K132 (allS (P := fun x => x ∈ [a] ∨ h0.size ≤ x) (Or.inl (List.mem_of_getElem? (i := 0) rfl)) all0)), sz_gb132, hg132, Fx132_0x, Fx132_1, Fx132_2, Ab132, Ov132⟩
set_option maxRecDepth 65536 in
set_option maxHeartbeats 40000000 in
theorem rmA1b (l : Launch) (Z : State) (a0 : Array Value) (hw : ∀ d ∈ tables_1, d.before a0 Z = true) (ws : List Jvm.Cond) (a b x y : Addr) (mc : Int32) (kb : ClassId) (h0 : Heap) (n0 : Nat) (Z0 : n0 ≤ h0.size) (E : Exa Z h0 a "java/util/ArrayList") (ga : n0 ≤ a) (F0 : Fld Z h0 a "java/util/AbstractList" "modCount" "I" (.int mc)) (F1 : Fld Z h0 a "java/util/ArrayList" "elementData" "[Ljava/lang/Object;" (.ref b)) (F2 : Fld Z h0 a "java/util/ArrayList" "size" "I" (.int (1 : Int32))) (A : Arv Z h0 b kb (.object "java/lang/Object") (10 : Int32) [(.ref x), .null, .null, .null, .null, .null, .null, .null, .null, .null] .null) (Ov : Ovr Z kb "java/lang/Object") (gb : n0 ≤ b) (hab : a ≠ b) (Ey : Exa Z h0 y "com/example/ludarc/ludarc/engine/Variable") :
    MetFree l (⟨"java/util/ArrayList", "add", "(Ljava/lang/Object;)Z"⟩ : MethodName) (head1 (Jvm.Cond.code (⟨"java/util/ArrayList", "add", "(Ljava/lang/Object;)Z"⟩ : MethodName) jdk_38_method_25_code 2 (some .boolean) :: ws) ({ frames := 1, cells := 0, slots := 0, locals := 15 } : Room)) (fun aa UU => aa = #[(.ref a), (.ref y)] ∧ Z.Warmed39 UU.vm ∧ UU.heap = h0) (fun _ _ _ _ _ => True) (fun _ UU oo U' => ∃ v L, oo = .returned v ∧ Qa2 Z a b x y kb (some (.int 1)) (mc + (1 : Int32)) h0 n0 v U'.heap L ∧ FrameEnd UU oo U' L ({ frames := 1, cells := 0, slots := 0, locals := 15 } : Room).cells ({ frames := 1, cells := 0, slots := 0, locals := 15 } : Room).slots) := by
  refine MetFree.of_bodySF (plainFor_of_name pn_2) hisR ?_
  intro p e s m args below meth c s₁ Bd hml0 hP hK
  obtain ⟨rfl, hZ, hh⟩ := hP
  have hx := Bd.exec
  have hby := Bd.bytes
  have hml : c.maxLocals = 2 := hml0
  have hown : s.vm.findClass "java/util/ArrayList" = some m.cls := findClass_of_methodNamed Bd.named
  have hnm := (name_of_methodNamed Bd.named Bd.method).1
  have X0 : Stand p l e ({ frames := 1, cells := 0, slots := 0, locals := 15 } : Room) s m #[(.ref a), (.ref y)] below meth c s₁ [] 0 0 := Stand.of_body Bd
  have e0 : s₁.heap = h0 := by rw [← hh, Bd.state]; rfl
  have N0 := Fr.nil n0
  obtain ⟨A0, hA0⟩ : ∃ A, A = s₁.setTop (entryFrame m #[(.ref a), (.ref y)] 2) := ⟨_, rfl⟩
  have G0 : Go p e below A0 (s₁.setTop (mkF m 0 #[.val (.ref a), .val (.ref y)] [])) := fun tq kq => by rw [hA0]; exact castTop (ef_rmA1b m a y) kq
  have G140 : Go p e below A0 (s₁.setTop (mkF m 2 #[.val (.ref a), .val (.ref y)] [(.ref a), (.ref a)])) := fun tq kq => G0 tq (by
    refine XS.aloadN X0.here hx rfl (hb hby d6_0) rfl rfl ?_
    show Steps p.tables e below (s₁.setTop (mkF m 1 #[.val (.ref a), .val (.ref y)] [(.ref a)])) _
    refine XS.dup X0.here hx rfl (hb hby d6_1) rfl rfl ?_
    show Steps p.tables e below (s₁.setTop (mkF m 2 #[.val (.ref a), .val (.ref y)] [(.ref a), (.ref a)])) _
    exact kq)
  obtain ⟨T141, X141, e141, st141⟩ := getF X0 hx hZ hown (host := "") (Or.inl (hw _ (List.mem_of_getElem? (i := 57) rfl))) (Via.of (hw _ (List.mem_of_getElem? (i := 58) rfl))) e0 F0 (g := (mkF m 2 #[.val (.ref a), .val (.ref y)] [(.ref a), (.ref a)])) rfl rfl (hb hby d6_2)
  have G142 : Go p e below A0 (T141.setTop (mkF m 5 #[.val (.ref a), .val (.ref y)] [(.int mc), (.ref a)])) := fun tq kq => G140 tq (st141 _ kq)
  have G143 : Go p e below A0 (T141.setTop (mkF m 7 #[.val (.ref a), .val (.ref y)] [(.int (mc + (1 : Int32))), (.ref a)])) := fun tq kq => G142 tq (by
    refine XS.iconst X141.here hx rfl (hb hby d6_5) ?_
    show Steps p.tables e below (T141.setTop (mkF m 6 #[.val (.ref a), .val (.ref y)] [(.int (1 : Int32)), (.int mc), (.ref a)])) _
    refine XS.iadd X141.here hx rfl (hb hby d6_6) rfl ?_
    show Steps p.tables e below (T141.setTop (mkF m 7 #[.val (.ref a), .val (.ref y)] [(.int (mc + (1 : Int32))), (.ref a)])) _
    exact kq)
  obtain ⟨T144, h144, X144, e144, W144, st144⟩ := putF X141 hx hZ hown (host := "") (Or.inl (hw _ (List.mem_of_getElem? (i := 57) rfl))) (Via.of (hw _ (List.mem_of_getElem? (i := 58) rfl))) e141 F0 E (Or.inl (hw _ (List.mem_of_getElem? (i := 22) rfl))) (hw _ (List.mem_of_getElem? (i := 1) rfl)) (ty := .int) (by decide) rfl rfl (g := (mkF m 7 #[.val (.ref a), .val (.ref y)] [(.int (mc + (1 : Int32))), (.ref a)])) rfl rfl (hb hby d6_7)
  have N144 := Fr.snoc X144 N0 ga
  have fw144 := F0.same W144
  have G145 : Go p e below A0 (T144.setTop (mkF m 10 #[.val (.ref a), .val (.ref y)] [])) := fun tq kq => G143 tq (st144 _ kq)
  have G146 : Go p e below A0 (T144.setTop (mkF m 13 #[.val (.ref a), .val (.ref y)] [(.ref a), (.ref y), (.ref a)])) := fun tq kq => G145 tq (by
    refine XS.aloadN X144.here hx rfl (hb hby d6_10) rfl rfl ?_
    show Steps p.tables e below (T144.setTop (mkF m 11 #[.val (.ref a), .val (.ref y)] [(.ref a)])) _
    refine XS.aloadN X144.here hx rfl (hb hby d6_11) rfl rfl ?_
    show Steps p.tables e below (T144.setTop (mkF m 12 #[.val (.ref a), .val (.ref y)] [(.ref y), (.ref a)])) _
    refine XS.aloadN X144.here hx rfl (hb hby d6_12) rfl rfl ?_
    show Steps p.tables e below (T144.setTop (mkF m 13 #[.val (.ref a), .val (.ref y)] [(.ref a), (.ref y), (.ref a)])) _
    exact kq)
  have f147 := (F1.other W144 (Or.inr (slot_ne (Or.inl (hw _ (List.mem_of_getElem? (i := 25) rfl))) (Or.inl (hw _ (List.mem_of_getElem? (i := 22) rfl))) (by decide) (t := (.array (.object "java/lang/Object"))) (t' := .int) (by decide) (by decide))))
  obtain ⟨T148, X148, e148, st148⟩ := getF X144 hx hZ hown (host := "") (Or.inl (hw _ (List.mem_of_getElem? (i := 24) rfl))) Via.refl e144 f147 (g := (mkF m 13 #[.val (.ref a), .val (.ref y)] [(.ref a), (.ref y), (.ref a)])) rfl rfl (hb hby d6_13)
  have G149 : Go p e below A0 (T148.setTop (mkF m 16 #[.val (.ref a), .val (.ref y)] [(.ref b), (.ref y), (.ref a)])) := fun tq kq => G146 tq (st148 _ kq)
  have G150 : Go p e below A0 (T148.setTop (mkF m 17 #[.val (.ref a), .val (.ref y)] [(.ref a), (.ref b), (.ref y), (.ref a)])) := fun tq kq => G149 tq (by
    refine XS.aloadN X148.here hx rfl (hb hby d6_16) rfl rfl ?_
    show Steps p.tables e below (T148.setTop (mkF m 17 #[.val (.ref a), .val (.ref y)] [(.ref a), (.ref b), (.ref y), (.ref a)])) _
    exact kq)
  have f151 := (F2.other W144 (Or.inr (slot_ne (Or.inl (hw _ (List.mem_of_getElem? (i := 60) rfl))) (Or.inl (hw _ (List.mem_of_getElem? (i := 22) rfl))) (by decide) (t := .int) (t' := .int) (by decide) (by decide))))
  obtain ⟨T152, X152, e152, st152⟩ := getF X148 hx hZ hown (host := "") (Or.inl (hw _ (List.mem_of_getElem? (i := 59) rfl))) Via.refl e148 f151 (g := (mkF m 17 #[.val (.ref a), .val (.ref y)] [(.ref a), (.ref b), (.ref y), (.ref a)])) rfl rfl (hb hby d6_17)
  have G153 : Go p e below A0 (T152.setTop (mkF m 20 #[.val (.ref a), .val (.ref y)] [(.int (1 : Int32)), (.ref b), (.ref y), (.ref a)])) := fun tq kq => G150 tq (st152 _ kq)
  have f155 := (Nat.le_trans Z0 (Keep.of_wr W144).1)
  have f156 := (E.wr W144)
  have f157 := (Ey.wr W144)
  have f158 := (A.other W144 (Ne.symm hab))
  obtain ⟨cq154, q154, q154'⟩ := f156.cell
  obtain ⟨_, _, ⟨T154, L154, k154, n154⟩, -, X154, ⟨Lc154, hQ154, l154, y154, z154⟩, st154⟩ := X152.privateBack hx (y := (⟨"java/util/ArrayList", "add", "(Ljava/lang/Object;[Ljava/lang/Object;I)V"⟩ : MethodName)) hown (mvT hZ (hw _ (List.mem_of_getElem? (i := 61) rfl))) (mvT hZ (hw _ (List.mem_of_getElem? (i := 62) rfl))) (mvT hZ (hw _ (List.mem_of_getElem? (i := 64) rfl))) (Cond.privateMethod_at (mvP hZ (hw _ (List.mem_of_getElem? (i := 63) rfl)) (args := #[]))) (mvT hZ (hw _ (List.mem_of_getElem? (i := 65) rfl))) (by decide) (backOf (W := 0) (rmA3b l Z a0 hw [] a b x y (mc + (1 : Int32)) kb h144 n0 f155 f156 ga fw144 f147 f151 f158 Ov gb hab f157) hZ (hw _ (List.mem_of_getElem? (i := 65) rfl)) (hw _ (List.mem_of_getElem? (i := 2) rfl)) (by decide) (by decide)) (g := (mkF m 20 #[.val (.ref a), .val (.ref y)] [(.int (1 : Int32)), (.ref b), (.ref y), (.ref a)])) rfl (by rw [hml]; rfl) (Steps.refl _) (a := a) (by rw [e152]; exact q154) q154' (argsL := [(.ref y), (.ref b), (.int (1 : Int32))]) (rest := []) (lenOf pd_4 rfl) rfl (by show 2 * 0 + _ ≤ _; exact Nat.le_of_eq rfl) (hb hby d6_20) (fun _ _ => ⟨rfl, e152, (by decide : 0 + 0 ≤ _), (by decide : 0 + 0 ≤ _)⟩)
  dsimp only [Pt.U, Pt.locs, Pt.cells, Pt.slots] at X154 l154 y154 z154 st154 hQ154
  obtain rfl : k154 = 0 := y154
  obtain rfl : n154 = 0 := z154
  obtain ⟨rfl, N154q, K154, Fx154_0, Fx154_1, Fx154_2, Ab154⟩ := hQ154
  have N154 : Fr n0 L154 := by rw [l154]; exact Fr.app N144 N154q
  have Fx154_0x : Fld Z T154.heap a "java/util/AbstractList" "modCount" "I" (.int (mc + (1 : Int32))) := Fx154_0
  have G159 : Go p e below A0 (T154.setTop (mkF m 23 #[.val (.ref a), .val (.ref y)] [])) := fun tq kq => G153 tq (st154.trans kq)
  have G160 : Go p e below A0 (T154.setTop (mkF m 24 #[.val (.ref a), .val (.ref y)] [(.int (1 : Int32))])) := fun tq kq => G159 tq (by
    refine XS.iconst X154.here hx rfl (hb hby d6_23) ?_
    show Steps p.tables e below (T154.setTop (mkF m 24 #[.val (.ref a), .val (.ref y)] [(.int (1 : Int32))])) _
    exact kq)
  obtain ⟨fs, hr, hrun, hended, hW, hsame⟩ := X154.leave (v := some (.int (nar .boolean (1 : Int32)))) (fun h => by rw [Bd.returns] at h; cases h)
  refine ⟨_, _, (by rw [← hA0]; exact G160 _ (retN X154 hx (t := .boolean) Bd.returns (by simp) (hb hby d6_24) hr)), hrun, hended, _, _, rfl, ?_, ⟨_, rfl⟩, hW, hsame.mono (by decide) (by decide)⟩
  show Qa2 Z a b x y kb (some (.int 1)) (mc + (1 : Int32)) h0 n0 _ T154.heap _
  exact ⟨rfl, N154, (((Keep.refl h0 [a, b]).wr W144 (Or.inl (List.mem_of_getElem? (i := 0) rfl))).trans K154 (allS (P := fun x => x ∈ [a, b] ∨ h0.size ≤ x) (Or.inl (List.mem_of_getElem? (i := 0) rfl)) (allS (P := fun x => x ∈ [a, b] ∨ h0.size ≤ x) (Or.inl (List.mem_of_getElem? (i := 1) rfl)) all0))), Fx154_0x, Fx154_1, Fx154_2, Ab154⟩
set_option maxRecDepth 65536 in
set_option maxHeartbeats 40000000 in
theorem rm12 (l : Launch) (Z : State) (a0 : Array Value) (hw : ∀ d ∈ tables_1, d.before a0 Z = true) (ws : List Jvm.Cond) (a : Addr) (n : Int32) (h0 : Heap) (n0 : Nat) (Z0 : n0 ≤ h0.size) (F : Fld Z h0 a "java/util/ArrayList" "size" "I" (.int n)) :
    MetFree l (⟨"java/util/ArrayList", "size", "()I"⟩ : MethodName) (head1 (Jvm.Cond.code (⟨"java/util/ArrayList", "size", "()I"⟩ : MethodName) jdk_38_method_8_code 1 (some .int) :: ws) ({ frames := 0, cells := 0, slots := 0, locals := 0 } : Room)) (fun aa UU => aa = #[(.ref a)] ∧ Z.Warmed39 UU.vm ∧ UU.heap = h0) (fun _ _ _ _ _ => True) (fun _ UU oo U' => ∃ v L, oo = .returned v ∧ Qr (.int n) h0 n0 v U'.heap L ∧ FrameEnd UU oo U' L ({ frames := 0, cells := 0, slots := 0, locals := 0 } : Room).cells ({ frames := 0, cells := 0, slots := 0, locals := 0 } : Room).slots) := by
  refine MetFree.of_bodySF (plainFor_of_name pn_2) hisR ?_
  intro p e s m args below meth c s₁ Bd hml0 hP hK
  obtain ⟨rfl, hZ, hh⟩ := hP
  have hx := Bd.exec
  have hby := Bd.bytes
  have hml : c.maxLocals = 1 := hml0
  have hown : s.vm.findClass "java/util/ArrayList" = some m.cls := findClass_of_methodNamed Bd.named
  have hnm := (name_of_methodNamed Bd.named Bd.method).1
  have X0 : Stand p l e ({ frames := 0, cells := 0, slots := 0, locals := 0 } : Room) s m #[(.ref a)] below meth c s₁ [] 0 0 := Stand.of_body Bd
  have e0 : s₁.heap = h0 := by rw [← hh, Bd.state]; rfl
  have N0 := Fr.nil n0
  obtain ⟨A0, hA0⟩ : ∃ A, A = s₁.setTop (entryFrame m #[(.ref a)] 1) := ⟨_, rfl⟩
  have G0 : Go p e below A0 (s₁.setTop (mkF m 0 #[.val (.ref a)] [])) := fun tq kq => by rw [hA0]; exact castTop (ef_rm12 m a) kq
  have G161 : Go p e below A0 (s₁.setTop (mkF m 1 #[.val (.ref a)] [(.ref a)])) := fun tq kq => G0 tq (by
    refine XS.aloadN X0.here hx rfl (hb hby d12_0) rfl rfl ?_
    show Steps p.tables e below (s₁.setTop (mkF m 1 #[.val (.ref a)] [(.ref a)])) _
    exact kq)
  obtain ⟨T162, X162, e162, st162⟩ := getF X0 hx hZ hown (host := "") (Or.inl (hw _ (List.mem_of_getElem? (i := 59) rfl))) Via.refl e0 F (g := (mkF m 1 #[.val (.ref a)] [(.ref a)])) rfl rfl (hb hby d12_1)
  have G163 : Go p e below A0 (T162.setTop (mkF m 4 #[.val (.ref a)] [(.int n)])) := fun tq kq => G161 tq (st162 _ kq)
  obtain ⟨fs, hr, hrun, hended, hW, hsame⟩ := X162.leave (v := some (.int n)) (fun h => by rw [Bd.returns] at h; cases h)
  refine ⟨_, _, (by rw [← hA0]; exact G163 _ (retOut X162 hx (t := .int) Bd.returns rfl (Or.inl ⟨rfl, Or.inl rfl, _, rfl⟩) (hb hby d12_4) hr)), hrun, hended, _, _, rfl, ?_, ⟨_, rfl⟩, hW, hsame.mono (by decide) (by decide)⟩
  exact ⟨rfl, N0, e162⟩
set_option maxRecDepth 65536 in
set_option maxHeartbeats 40000000 in
theorem rm15 (l : Launch) (Z : State) (a0 : Array Value) (hw : ∀ d ∈ tables_1, d.before a0 Z = true) (ws : List Jvm.Cond) (i n : Int32) (h0 : Heap) (n0 : Nat) (Z0 : n0 ≤ h0.size) (hi : ¬ i < (0 : Int32) ∧ i < n) :
    MetFree l (⟨"jdk/internal/util/Preconditions", "checkIndex", "(IILjava/util/function/BiFunction;)I"⟩ : MethodName) (head1 (Jvm.Cond.code (⟨"jdk/internal/util/Preconditions", "checkIndex", "(IILjava/util/function/BiFunction;)I"⟩ : MethodName) jdk_41_method_11_code 3 (some .int) :: ws) ({ frames := 0, cells := 0, slots := 0, locals := 0 } : Room)) (fun aa UU => aa = #[(.int i), (.int n), .null] ∧ Z.Warmed39 UU.vm ∧ UU.heap = h0) (fun _ _ _ _ _ => True) (fun _ UU oo U' => ∃ v L, oo = .returned v ∧ Qr (.int i) h0 n0 v U'.heap L ∧ FrameEnd UU oo U' L ({ frames := 0, cells := 0, slots := 0, locals := 0 } : Room).cells ({ frames := 0, cells := 0, slots := 0, locals := 0 } : Room).slots) := by
  refine MetFree.of_bodySF (plainFor_of_name pn_4) hisR ?_
  intro p e s m args below meth c s₁ Bd hml0 hP hK
  obtain ⟨rfl, hZ, hh⟩ := hP
  have hx := Bd.exec
  have hby := Bd.bytes
  have hml : c.maxLocals = 3 := hml0
  have hown : s.vm.findClass "jdk/internal/util/Preconditions" = some m.cls := findClass_of_methodNamed Bd.named
  have hnm := (name_of_methodNamed Bd.named Bd.method).1
  have X0 : Stand p l e ({ frames := 0, cells := 0, slots := 0, locals := 0 } : Room) s m #[(.int i), (.int n), .null] below meth c s₁ [] 0 0 := Stand.of_body Bd
  have e0 : s₁.heap = h0 := by rw [← hh, Bd.state]; rfl
  have N0 := Fr.nil n0
  obtain ⟨A0, hA0⟩ : ∃ A, A = s₁.setTop (entryFrame m #[(.int i), (.int n), .null] 3) := ⟨_, rfl⟩
  have G0 : Go p e below A0 (s₁.setTop (mkF m 0 #[.val (.int i), .val (.int n), .val .null] [])) := fun tq kq => by rw [hA0]; exact castTop (ef_rm15 m i n) kq
  have G164 : Go p e below A0 (s₁.setTop (mkF m 17 #[.val (.int i), .val (.int n), .val .null] [(.int i)])) := fun tq kq => G0 tq (by
    refine XS.iloadN X0.here hx rfl (hb hby d15_0) rfl ?_
    show Steps p.tables e below (s₁.setTop (mkF m 1 #[.val (.int i), .val (.int n), .val .null] [(.int i)])) _
    refine XS.ifNo X0.here hx rfl (hb hby d15_1) rfl ((if0 _ _).trans (flt hi.1).1) ?_
    show Steps p.tables e below (s₁.setTop (mkF m 4 #[.val (.int i), .val (.int n), .val .null] [])) _
    refine XS.iloadN X0.here hx rfl (hb hby d15_4) rfl ?_
    show Steps p.tables e below (s₁.setTop (mkF m 5 #[.val (.int i), .val (.int n), .val .null] [(.int i)])) _
    refine XS.iloadN X0.here hx rfl (hb hby d15_5) rfl ?_
    show Steps p.tables e below (s₁.setTop (mkF m 6 #[.val (.int i), .val (.int n), .val .null] [(.int n), (.int i)])) _
    refine XS.icmpYes X0.here hx rfl (pc0 := 6) (pc' := 16) rfl (hb hby d15_6) rfl (tlt hi.2).1 (by decide) (by decide) ?_
    show Steps p.tables e below (s₁.setTop (mkF m 16 #[.val (.int i), .val (.int n), .val .null] [])) _
    refine XS.iloadN X0.here hx rfl (hb hby d15_16) rfl ?_
    show Steps p.tables e below (s₁.setTop (mkF m 17 #[.val (.int i), .val (.int n), .val .null] [(.int i)])) _
    exact kq)
  obtain ⟨fs, hr, hrun, hended, hW, hsame⟩ := X0.leave (v := some (.int i)) (fun h => by rw [Bd.returns] at h; cases h)
  refine ⟨_, _, (by rw [← hA0]; exact G164 _ (retOut X0 hx (t := .int) Bd.returns rfl (Or.inl ⟨rfl, Or.inl rfl, _, rfl⟩) (hb hby d15_17) hr)), hrun, hended, _, _, rfl, ?_, ⟨_, rfl⟩, hW, hsame.mono (by decide) (by decide)⟩
  exact ⟨rfl, N0, e0⟩
set_option maxRecDepth 65536 in
set_option maxHeartbeats 40000000 in
theorem rm14 (l : Launch) (Z : State) (a0 : Array Value) (hw : ∀ d ∈ tables_1, d.before a0 Z = true) (ws : List Jvm.Cond) (i n : Int32) (h0 : Heap) (n0 : Nat) (Z0 : n0 ≤ h0.size) (hi : ¬ i < (0 : Int32) ∧ i < n) :
    MetFree l (⟨"java/util/Objects", "checkIndex", "(II)I"⟩ : MethodName) (head1 (Jvm.Cond.code (⟨"java/util/Objects", "checkIndex", "(II)I"⟩ : MethodName) jdk_31_method_17_code 2 (some .int) :: ws) ({ frames := 1, cells := 0, slots := 0, locals := 14 } : Room)) (fun aa UU => aa = #[(.int i), (.int n)] ∧ Z.Warmed39 UU.vm ∧ UU.heap = h0) (fun _ _ _ _ _ => True) (fun _ UU oo U' => ∃ v L, oo = .returned v ∧ Qr (.int i) h0 n0 v U'.heap L ∧ FrameEnd UU oo U' L ({ frames := 1, cells := 0, slots := 0, locals := 14 } : Room).cells ({ frames := 1, cells := 0, slots := 0, locals := 14 } : Room).slots) := by
  refine MetFree.of_bodySF (plainFor_of_name pn_5) hisR ?_
  intro p e s m args below meth c s₁ Bd hml0 hP hK
  obtain ⟨rfl, hZ, hh⟩ := hP
  have hx := Bd.exec
  have hby := Bd.bytes
  have hml : c.maxLocals = 2 := hml0
  have hown : s.vm.findClass "java/util/Objects" = some m.cls := findClass_of_methodNamed Bd.named
  have hnm := (name_of_methodNamed Bd.named Bd.method).1
  have X0 : Stand p l e ({ frames := 1, cells := 0, slots := 0, locals := 14 } : Room) s m #[(.int i), (.int n)] below meth c s₁ [] 0 0 := Stand.of_body Bd
  have e0 : s₁.heap = h0 := by rw [← hh, Bd.state]; rfl
  have N0 := Fr.nil n0
  obtain ⟨A0, hA0⟩ : ∃ A, A = s₁.setTop (entryFrame m #[(.int i), (.int n)] 2) := ⟨_, rfl⟩
  have G0 : Go p e below A0 (s₁.setTop (mkF m 0 #[.val (.int i), .val (.int n)] [])) := fun tq kq => by rw [hA0]; exact castTop (ef_rm14 m i n) kq
  have G165 : Go p e below A0 (s₁.setTop (mkF m 3 #[.val (.int i), .val (.int n)] [.null, (.int n), (.int i)])) := fun tq kq => G0 tq (by
    refine XS.iloadN X0.here hx rfl (hb hby d14_0) rfl ?_
    show Steps p.tables e below (s₁.setTop (mkF m 1 #[.val (.int i), .val (.int n)] [(.int i)])) _
    refine XS.iloadN X0.here hx rfl (hb hby d14_1) rfl ?_
    show Steps p.tables e below (s₁.setTop (mkF m 2 #[.val (.int i), .val (.int n)] [(.int n), (.int i)])) _
    refine XS.aconstNull X0.here hx rfl (hb hby d14_2) ?_
    show Steps p.tables e below (s₁.setTop (mkF m 3 #[.val (.int i), .val (.int n)] [.null, (.int n), (.int i)])) _
    exact kq)
  obtain ⟨_, _, ⟨T166, L166, k166, n166⟩, -, X166, ⟨Lc166, hQ166, l166, y166, z166⟩, st166⟩ := Jvm.LawKit.callS X0 hx (y := (⟨"jdk/internal/util/Preconditions", "checkIndex", "(IILjava/util/function/BiFunction;)I"⟩ : MethodName)) hown (mvT hZ (hw _ (List.mem_of_getElem? (i := 124) rfl))) (mvT hZ (hw _ (List.mem_of_getElem? (i := 125) rfl))) (mvT hZ (hw _ (List.mem_of_getElem? (i := 126) rfl))) (mvT hZ (hw _ (List.mem_of_getElem? (i := 127) rfl))) (by decide) (backOf (W := 0) (rm15 l Z a0 hw [] i n h0 n0 Z0 hi) hZ (hw _ (List.mem_of_getElem? (i := 127) rfl)) (hw _ (List.mem_of_getElem? (i := 126) rfl)) (by decide) (by decide)) (g := (mkF m 3 #[.val (.int i), .val (.int n)] [.null, (.int n), (.int i)])) rfl (by rw [hml]; rfl) (argsL := [(.int i), (.int n), .null]) (rest := []) (lenOf pd_5 rfl) rfl (by show 2 * 0 + _ ≤ _; exact Nat.le_of_eq rfl) (hb hby d14_3) (fun _ _ => ⟨rfl, e0, (by decide : 0 + 0 ≤ _), (by decide : 0 + 0 ≤ _)⟩)
  dsimp only [Pt.U, Pt.locs, Pt.cells, Pt.slots] at X166 l166 y166 z166 st166 hQ166
  obtain rfl : k166 = 0 := y166
  obtain rfl : n166 = 0 := z166
  obtain ⟨rfl, N166q, e166⟩ := hQ166
  have N166 : Fr n0 L166 := by rw [l166]; exact Fr.app N0 N166q
  have G167 : Go p e below A0 (T166.setTop (mkF m 6 #[.val (.int i), .val (.int n)] [(.int i)])) := fun tq kq => G165 tq (st166 _ kq)
  obtain ⟨fs, hr, hrun, hended, hW, hsame⟩ := X166.leave (v := some (.int i)) (fun h => by rw [Bd.returns] at h; cases h)
  refine ⟨_, _, (by rw [← hA0]; exact G167 _ (retOut X166 hx (t := .int) Bd.returns rfl (Or.inl ⟨rfl, Or.inl rfl, _, rfl⟩) (hb hby d14_6) hr)), hrun, hended, _, _, rfl, ?_, ⟨_, rfl⟩, hW, hsame.mono (by decide) (by decide)⟩
  exact ⟨rfl, N166, e166⟩
set_option maxRecDepth 65536 in
set_option maxHeartbeats 40000000 in
theorem rmED0 (l : Launch) (Z : State) (a0 : Array Value) (hw : ∀ d ∈ tables_1, d.before a0 Z = true) (ws : List Jvm.Cond) (a b x y : Addr) (kb : ClassId) (h0 : Heap) (n0 : Nat) (Z0 : n0 ≤ h0.size) (E : Exa Z h0 a "java/util/ArrayList") (F1 : Fld Z h0 a "java/util/ArrayList" "elementData" "[Ljava/lang/Object;" (.ref b)) (F2 : Fld Z h0 a "java/util/ArrayList" "size" "I" (.int (2 : Int32))) (A : Arv Z h0 b kb (.object "java/lang/Object") (10 : Int32) [(.ref x), (.ref y), .null, .null, .null, .null, .null, .null, .null, .null] .null) :
    MetFree l (⟨"java/util/ArrayList", "elementData", "(I)Ljava/lang/Object;"⟩ : MethodName) (head1 (Jvm.Cond.code (⟨"java/util/ArrayList", "elementData", "(I)Ljava/lang/Object;"⟩ : MethodName) jdk_38_method_18_code 2 (some (.object "java/lang/Object")) :: ws) ({ frames := 0, cells := 0, slots := 0, locals := 0 } : Room)) (fun aa UU => aa = #[(.ref a), (.int (0 : Int32))] ∧ Z.Warmed39 UU.vm ∧ UU.heap = h0) (fun _ _ _ _ _ => True) (fun _ UU oo U' => ∃ v L, oo = .returned v ∧ Qr (.ref x) h0 n0 v U'.heap L ∧ FrameEnd UU oo U' L ({ frames := 0, cells := 0, slots := 0, locals := 0 } : Room).cells ({ frames := 0, cells := 0, slots := 0, locals := 0 } : Room).slots) := by
  refine MetFree.of_bodySF (plainFor_of_name pn_2) hisR ?_
  intro p e s m args below meth c s₁ Bd hml0 hP hK
  obtain ⟨rfl, hZ, hh⟩ := hP
  have hx := Bd.exec
  have hby := Bd.bytes
  have hml : c.maxLocals = 2 := hml0
  have hown : s.vm.findClass "java/util/ArrayList" = some m.cls := findClass_of_methodNamed Bd.named
  have hnm := (name_of_methodNamed Bd.named Bd.method).1
  have X0 : Stand p l e ({ frames := 0, cells := 0, slots := 0, locals := 0 } : Room) s m #[(.ref a), (.int (0 : Int32))] below meth c s₁ [] 0 0 := Stand.of_body Bd
  have e0 : s₁.heap = h0 := by rw [← hh, Bd.state]; rfl
  have N0 := Fr.nil n0
  obtain ⟨A0, hA0⟩ : ∃ A, A = s₁.setTop (entryFrame m #[(.ref a), (.int (0 : Int32))] 2) := ⟨_, rfl⟩
  have G0 : Go p e below A0 (s₁.setTop (mkF m 0 #[.val (.ref a), .val (.int (0 : Int32))] [])) := fun tq kq => by rw [hA0]; exact castTop (ef_rmED0 m a (0 : Int32)) kq
  have G168 : Go p e below A0 (s₁.setTop (mkF m 1 #[.val (.ref a), .val (.int (0 : Int32))] [(.ref a)])) := fun tq kq => G0 tq (by
    refine XS.aloadN X0.here hx rfl (hb hby d16_0) rfl rfl ?_
    show Steps p.tables e below (s₁.setTop (mkF m 1 #[.val (.ref a), .val (.int (0 : Int32))] [(.ref a)])) _
    exact kq)
  obtain ⟨T169, X169, e169, st169⟩ := getF X0 hx hZ hown (host := "") (Or.inl (hw _ (List.mem_of_getElem? (i := 24) rfl))) Via.refl e0 F1 (g := (mkF m 1 #[.val (.ref a), .val (.int (0 : Int32))] [(.ref a)])) rfl rfl (hb hby d16_1)
  have G170 : Go p e below A0 (T169.setTop (mkF m 4 #[.val (.ref a), .val (.int (0 : Int32))] [(.ref b)])) := fun tq kq => G168 tq (st169 _ kq)
  have G171 : Go p e below A0 (T169.setTop (mkF m 5 #[.val (.ref a), .val (.int (0 : Int32))] [(.int (0 : Int32)), (.ref b)])) := fun tq kq => G170 tq (by
    refine XS.iloadN X169.here hx rfl (hb hby d16_4) rfl ?_
    show Steps p.tables e below (T169.setTop (mkF m 5 #[.val (.ref a), .val (.int (0 : Int32))] [(.int (0 : Int32)), (.ref b)])) _
    exact kq)
  obtain ⟨cl172, Ar172, q172, S172, M172, H172, Gf172⟩ := id A
  have hi173 : ¬ ((0 : Int32) < 0 ∨ cl172.slots.size ≤ ((0 : Int32)).toNatClampNeg) := (inb_of S172 ⟨by decide, by decide⟩)
  have G174 : Go p e below A0 (T169.setTop (mkF m 6 #[.val (.ref a), .val (.int (0 : Int32))] [(.ref x)])) := fun tq kq => G171 tq (by
    refine X169.aaload hx (j := (0 : Int32)) (v := (.ref x)) (by rw [e169]; exact Ar172.1) (State.isArrayOf_alike hZ.alike Ar172.2.1) rfl Ar172.2.2 hi173 (H172.at hi173 rfl) (g := (mkF m 5 #[.val (.ref a), .val (.int (0 : Int32))] [(.int (0 : Int32)), (.ref b)])) rfl rfl (hb hby d16_5) _ ?_
    show Steps p.tables e below (T169.setTop (mkF m 6 #[.val (.ref a), .val (.int (0 : Int32))] [(.ref x)])) _
    exact kq)
  obtain ⟨fs, hr, hrun, hended, hW, hsame⟩ := X169.leave (v := some (.ref x)) (fun h => by rw [Bd.returns] at h; cases h)
  refine ⟨_, _, (by rw [← hA0]; exact G174 _ (retOut X169 hx (t := (.object "java/lang/Object")) Bd.returns rfl (Or.inr (Or.inr (Or.inr (Or.inr ⟨rfl, rfl, rfl⟩)))) (hb hby d16_6) hr)), hrun, hended, _, _, rfl, ?_, ⟨_, rfl⟩, hW, hsame.mono (by decide) (by decide)⟩
  exact ⟨rfl, N0, e169⟩
set_option maxRecDepth 65536 in
set_option maxHeartbeats 40000000 in
theorem rmGT0 (l : Launch) (Z : State) (a0 : Array Value) (hw : ∀ d ∈ tables_1, d.before a0 Z = true) (ws : List Jvm.Cond) (a b x y : Addr) (kb : ClassId) (h0 : Heap) (n0 : Nat) (Z0 : n0 ≤ h0.size) (E : Exa Z h0 a "java/util/ArrayList") (F1 : Fld Z h0 a "java/util/ArrayList" "elementData" "[Ljava/lang/Object;" (.ref b)) (F2 : Fld Z h0 a "java/util/ArrayList" "size" "I" (.int (2 : Int32))) (A : Arv Z h0 b kb (.object "java/lang/Object") (10 : Int32) [(.ref x), (.ref y), .null, .null, .null, .null, .null, .null, .null, .null] .null) :
    MetFree l (⟨"java/util/ArrayList", "get", "(I)Ljava/lang/Object;"⟩ : MethodName) (head1 (Jvm.Cond.code (⟨"java/util/ArrayList", "get", "(I)Ljava/lang/Object;"⟩ : MethodName) jdk_38_method_20_code 2 (some (.object "java/lang/Object")) :: ws) ({ frames := 2, cells := 0, slots := 0, locals := 27 } : Room)) (fun aa UU => aa = #[(.ref a), (.int (0 : Int32))] ∧ Z.Warmed39 UU.vm ∧ UU.heap = h0) (fun _ _ _ _ _ => True) (fun _ UU oo U' => ∃ v L, oo = .returned v ∧ Qr (.ref x) h0 n0 v U'.heap L ∧ FrameEnd UU oo U' L ({ frames := 2, cells := 0, slots := 0, locals := 27 } : Room).cells ({ frames := 2, cells := 0, slots := 0, locals := 27 } : Room).slots) := by
  refine MetFree.of_bodySF (plainFor_of_name pn_2) hisR ?_
  intro p e s m args below meth c s₁ Bd hml0 hP hK
  obtain ⟨rfl, hZ, hh⟩ := hP
  have hx := Bd.exec
  have hby := Bd.bytes
  have hml : c.maxLocals = 2 := hml0
  have hown : s.vm.findClass "java/util/ArrayList" = some m.cls := findClass_of_methodNamed Bd.named
  have hnm := (name_of_methodNamed Bd.named Bd.method).1
  have X0 : Stand p l e ({ frames := 2, cells := 0, slots := 0, locals := 27 } : Room) s m #[(.ref a), (.int (0 : Int32))] below meth c s₁ [] 0 0 := Stand.of_body Bd
  have e0 : s₁.heap = h0 := by rw [← hh, Bd.state]; rfl
  have N0 := Fr.nil n0
  obtain ⟨A0, hA0⟩ : ∃ A, A = s₁.setTop (entryFrame m #[(.ref a), (.int (0 : Int32))] 2) := ⟨_, rfl⟩
  have G0 : Go p e below A0 (s₁.setTop (mkF m 0 #[.val (.ref a), .val (.int (0 : Int32))] [])) := fun tq kq => by rw [hA0]; exact castTop (ef_rmGT0 m a (0 : Int32)) kq
  have G175 : Go p e below A0 (s₁.setTop (mkF m 2 #[.val (.ref a), .val (.int (0 : Int32))] [(.ref a), (.int (0 : Int32))])) := fun tq kq => G0 tq (by
    refine XS.iloadN X0.here hx rfl (hb hby d13_0) rfl ?_
    show Steps p.tables e below (s₁.setTop (mkF m 1 #[.val (.ref a), .val (.int (0 : Int32))] [(.int (0 : Int32))])) _
    refine XS.aloadN X0.here hx rfl (hb hby d13_1) rfl rfl ?_
    show Steps p.tables e below (s₁.setTop (mkF m 2 #[.val (.ref a), .val (.int (0 : Int32))] [(.ref a), (.int (0 : Int32))])) _
    exact kq)
  obtain ⟨T176, X176, e176, st176⟩ := getF X0 hx hZ hown (host := "") (Or.inl (hw _ (List.mem_of_getElem? (i := 59) rfl))) Via.refl e0 F2 (g := (mkF m 2 #[.val (.ref a), .val (.int (0 : Int32))] [(.ref a), (.int (0 : Int32))])) rfl rfl (hb hby d13_2)
  have G177 : Go p e below A0 (T176.setTop (mkF m 5 #[.val (.ref a), .val (.int (0 : Int32))] [(.int (2 : Int32)), (.int (0 : Int32))])) := fun tq kq => G175 tq (st176 _ kq)
  obtain ⟨_, _, ⟨T178, L178, k178, n178⟩, -, X178, ⟨Lc178, hQ178, l178, y178, z178⟩, st178⟩ := Jvm.LawKit.callS X176 hx (y := (⟨"java/util/Objects", "checkIndex", "(II)I"⟩ : MethodName)) hown (mvT hZ (hw _ (List.mem_of_getElem? (i := 120) rfl))) (mvT hZ (hw _ (List.mem_of_getElem? (i := 121) rfl))) (mvT hZ (hw _ (List.mem_of_getElem? (i := 122) rfl))) (mvT hZ (hw _ (List.mem_of_getElem? (i := 123) rfl))) (by decide) (backOf (W := 0) (rm14 l Z a0 hw [] (0 : Int32) (2 : Int32) h0 n0 Z0 ⟨by decide, by decide⟩) hZ (hw _ (List.mem_of_getElem? (i := 123) rfl)) (hw _ (List.mem_of_getElem? (i := 122) rfl)) (by decide) (by decide)) (g := (mkF m 5 #[.val (.ref a), .val (.int (0 : Int32))] [(.int (2 : Int32)), (.int (0 : Int32))])) rfl (by rw [hml]; rfl) (argsL := [(.int (0 : Int32)), (.int (2 : Int32))]) (rest := []) (lenOf pd_1 rfl) rfl (by show 2 * 0 + _ ≤ _; exact Nat.le_of_eq rfl) (hb hby d13_5) (fun _ _ => ⟨rfl, e176, (by decide : 0 + 0 ≤ _), (by decide : 0 + 0 ≤ _)⟩)
  dsimp only [Pt.U, Pt.locs, Pt.cells, Pt.slots] at X178 l178 y178 z178 st178 hQ178
  obtain rfl : k178 = 0 := y178
  obtain rfl : n178 = 0 := z178
  obtain ⟨rfl, N178q, e178⟩ := hQ178
  have N178 : Fr n0 L178 := by rw [l178]; exact Fr.app N0 N178q
  have G179 : Go p e below A0 (T178.setTop (mkF m 8 #[.val (.ref a), .val (.int (0 : Int32))] [(.int (0 : Int32))])) := fun tq kq => G177 tq (st178 _ kq)
  have G180 : Go p e below A0 (T178.setTop (mkF m 11 #[.val (.ref a), .val (.int (0 : Int32))] [(.int (0 : Int32)), (.ref a)])) := fun tq kq => G179 tq (by
    refine XS.pop X178.here hx rfl (hb hby d13_8) rfl rfl ?_
    show Steps p.tables e below (T178.setTop (mkF m 9 #[.val (.ref a), .val (.int (0 : Int32))] [])) _
    refine XS.aloadN X178.here hx rfl (hb hby d13_9) rfl rfl ?_
    show Steps p.tables e below (T178.setTop (mkF m 10 #[.val (.ref a), .val (.int (0 : Int32))] [(.ref a)])) _
    refine XS.iloadN X178.here hx rfl (hb hby d13_10) rfl ?_
    show Steps p.tables e below (T178.setTop (mkF m 11 #[.val (.ref a), .val (.int (0 : Int32))] [(.int (0 : Int32)), (.ref a)])) _
    exact kq)
  obtain ⟨cq181, kq181, q181a, q181b, q181c⟩ := isOf hZ e178 E
  obtain ⟨_, _, ⟨T181, L181, k181, n181⟩, -, X181, ⟨Lc181, hQ181, l181, y181, z181⟩, st181⟩ := X178.virtualBack hx (y := (⟨"java/util/ArrayList", "elementData", "(I)Ljava/lang/Object;"⟩ : MethodName)) (z := (⟨"java/util/ArrayList", "elementData", "(I)Ljava/lang/Object;"⟩ : MethodName)) hown (mvT hZ (hw _ (List.mem_of_getElem? (i := 128) rfl))) (mvT hZ (hw _ (List.mem_of_getElem? (i := 129) rfl))) (notFace_of_selects (args := #[]) (mvT hZ (hw _ (List.mem_of_getElem? (i := 131) rfl)))) (mvT hZ (hw _ (List.mem_of_getElem? (i := 131) rfl))) (mvT hZ (hw _ (List.mem_of_getElem? (i := 130) rfl))) (by decide) (backOf (W := 0) (rmED0 l Z a0 hw [] a b x y kb h0 n0 Z0 E F1 F2 A) hZ (hw _ (List.mem_of_getElem? (i := 132) rfl)) (hw _ (List.mem_of_getElem? (i := 2) rfl)) (by decide) (by decide)) q181a q181c (g := (mkF m 11 #[.val (.ref a), .val (.int (0 : Int32))] [(.int (0 : Int32)), (.ref a)])) rfl (by rw [hml]; rfl) (Steps.refl _) (argsL := [(.int (0 : Int32))]) (rest := []) (lenOf pd_6 rfl) rfl (by show 2 * 0 + _ ≤ _; exact Nat.le_of_eq rfl) (hb hby d13_11) (fun _ _ => ⟨rfl, e178, (by decide : 0 + 0 ≤ _), (by decide : 0 + 0 ≤ _)⟩)
  dsimp only [Pt.U, Pt.locs, Pt.cells, Pt.slots] at X181 l181 y181 z181 st181 hQ181
  obtain rfl : k181 = 0 := y181
  obtain rfl : n181 = 0 := z181
  obtain ⟨rfl, N181q, e181⟩ := hQ181
  have N181 : Fr n0 L181 := by rw [l181]; exact Fr.app N178 N181q
  have G182 : Go p e below A0 (T181.setTop (mkF m 14 #[.val (.ref a), .val (.int (0 : Int32))] [(.ref x)])) := fun tq kq => G180 tq (st181.trans kq)
  obtain ⟨fs, hr, hrun, hended, hW, hsame⟩ := X181.leave (v := some (.ref x)) (fun h => by rw [Bd.returns] at h; cases h)
  refine ⟨_, _, (by rw [← hA0]; exact G182 _ (retOut X181 hx (t := (.object "java/lang/Object")) Bd.returns rfl (Or.inr (Or.inr (Or.inr (Or.inr ⟨rfl, rfl, rfl⟩)))) (hb hby d13_14) hr)), hrun, hended, _, _, rfl, ?_, ⟨_, rfl⟩, hW, hsame.mono (by decide) (by decide)⟩
  exact ⟨rfl, N181, e181⟩
set_option maxRecDepth 65536 in
set_option maxHeartbeats 40000000 in
theorem rmED1 (l : Launch) (Z : State) (a0 : Array Value) (hw : ∀ d ∈ tables_1, d.before a0 Z = true) (ws : List Jvm.Cond) (a b x y : Addr) (kb : ClassId) (h0 : Heap) (n0 : Nat) (Z0 : n0 ≤ h0.size) (E : Exa Z h0 a "java/util/ArrayList") (F1 : Fld Z h0 a "java/util/ArrayList" "elementData" "[Ljava/lang/Object;" (.ref b)) (F2 : Fld Z h0 a "java/util/ArrayList" "size" "I" (.int (2 : Int32))) (A : Arv Z h0 b kb (.object "java/lang/Object") (10 : Int32) [(.ref x), (.ref y), .null, .null, .null, .null, .null, .null, .null, .null] .null) :
    MetFree l (⟨"java/util/ArrayList", "elementData", "(I)Ljava/lang/Object;"⟩ : MethodName) (head1 (Jvm.Cond.code (⟨"java/util/ArrayList", "elementData", "(I)Ljava/lang/Object;"⟩ : MethodName) jdk_38_method_18_code 2 (some (.object "java/lang/Object")) :: ws) ({ frames := 0, cells := 0, slots := 0, locals := 0 } : Room)) (fun aa UU => aa = #[(.ref a), (.int (1 : Int32))] ∧ Z.Warmed39 UU.vm ∧ UU.heap = h0) (fun _ _ _ _ _ => True) (fun _ UU oo U' => ∃ v L, oo = .returned v ∧ Qr (.ref y) h0 n0 v U'.heap L ∧ FrameEnd UU oo U' L ({ frames := 0, cells := 0, slots := 0, locals := 0 } : Room).cells ({ frames := 0, cells := 0, slots := 0, locals := 0 } : Room).slots) := by
  refine MetFree.of_bodySF (plainFor_of_name pn_2) hisR ?_
  intro p e s m args below meth c s₁ Bd hml0 hP hK
  obtain ⟨rfl, hZ, hh⟩ := hP
  have hx := Bd.exec
  have hby := Bd.bytes
  have hml : c.maxLocals = 2 := hml0
  have hown : s.vm.findClass "java/util/ArrayList" = some m.cls := findClass_of_methodNamed Bd.named
  have hnm := (name_of_methodNamed Bd.named Bd.method).1
  have X0 : Stand p l e ({ frames := 0, cells := 0, slots := 0, locals := 0 } : Room) s m #[(.ref a), (.int (1 : Int32))] below meth c s₁ [] 0 0 := Stand.of_body Bd
  have e0 : s₁.heap = h0 := by rw [← hh, Bd.state]; rfl
  have N0 := Fr.nil n0
  obtain ⟨A0, hA0⟩ : ∃ A, A = s₁.setTop (entryFrame m #[(.ref a), (.int (1 : Int32))] 2) := ⟨_, rfl⟩
  have G0 : Go p e below A0 (s₁.setTop (mkF m 0 #[.val (.ref a), .val (.int (1 : Int32))] [])) := fun tq kq => by rw [hA0]; exact castTop (ef_rmED1 m a (1 : Int32)) kq
  have G183 : Go p e below A0 (s₁.setTop (mkF m 1 #[.val (.ref a), .val (.int (1 : Int32))] [(.ref a)])) := fun tq kq => G0 tq (by
    refine XS.aloadN X0.here hx rfl (hb hby d16_0) rfl rfl ?_
    show Steps p.tables e below (s₁.setTop (mkF m 1 #[.val (.ref a), .val (.int (1 : Int32))] [(.ref a)])) _
    exact kq)
  obtain ⟨T184, X184, e184, st184⟩ := getF X0 hx hZ hown (host := "") (Or.inl (hw _ (List.mem_of_getElem? (i := 24) rfl))) Via.refl e0 F1 (g := (mkF m 1 #[.val (.ref a), .val (.int (1 : Int32))] [(.ref a)])) rfl rfl (hb hby d16_1)
  have G185 : Go p e below A0 (T184.setTop (mkF m 4 #[.val (.ref a), .val (.int (1 : Int32))] [(.ref b)])) := fun tq kq => G183 tq (st184 _ kq)
  have G186 : Go p e below A0 (T184.setTop (mkF m 5 #[.val (.ref a), .val (.int (1 : Int32))] [(.int (1 : Int32)), (.ref b)])) := fun tq kq => G185 tq (by
    refine XS.iloadN X184.here hx rfl (hb hby d16_4) rfl ?_
    show Steps p.tables e below (T184.setTop (mkF m 5 #[.val (.ref a), .val (.int (1 : Int32))] [(.int (1 : Int32)), (.ref b)])) _
    exact kq)
  obtain ⟨cl187, Ar187, q187, S187, M187, H187, Gf187⟩ := id A
  have hi188 : ¬ ((1 : Int32) < 0 ∨ cl187.slots.size ≤ ((1 : Int32)).toNatClampNeg) := (inb_of S187 ⟨by decide, by decide⟩)
  have G189 : Go p e below A0 (T184.setTop (mkF m 6 #[.val (.ref a), .val (.int (1 : Int32))] [(.ref y)])) := fun tq kq => G186 tq (by
    refine X184.aaload hx (j := (1 : Int32)) (v := (.ref y)) (by rw [e184]; exact Ar187.1) (State.isArrayOf_alike hZ.alike Ar187.2.1) rfl Ar187.2.2 hi188 (H187.at hi188 rfl) (g := (mkF m 5 #[.val (.ref a), .val (.int (1 : Int32))] [(.int (1 : Int32)), (.ref b)])) rfl rfl (hb hby d16_5) _ ?_
    show Steps p.tables e below (T184.setTop (mkF m 6 #[.val (.ref a), .val (.int (1 : Int32))] [(.ref y)])) _
    exact kq)
  obtain ⟨fs, hr, hrun, hended, hW, hsame⟩ := X184.leave (v := some (.ref y)) (fun h => by rw [Bd.returns] at h; cases h)
  refine ⟨_, _, (by rw [← hA0]; exact G189 _ (retOut X184 hx (t := (.object "java/lang/Object")) Bd.returns rfl (Or.inr (Or.inr (Or.inr (Or.inr ⟨rfl, rfl, rfl⟩)))) (hb hby d16_6) hr)), hrun, hended, _, _, rfl, ?_, ⟨_, rfl⟩, hW, hsame.mono (by decide) (by decide)⟩
  exact ⟨rfl, N0, e184⟩
set_option maxRecDepth 65536 in
set_option maxHeartbeats 40000000 in
theorem rmGT1 (l : Launch) (Z : State) (a0 : Array Value) (hw : ∀ d ∈ tables_1, d.before a0 Z = true) (ws : List Jvm.Cond) (a b x y : Addr) (kb : ClassId) (h0 : Heap) (n0 : Nat) (Z0 : n0 ≤ h0.size) (E : Exa Z h0 a "java/util/ArrayList") (F1 : Fld Z h0 a "java/util/ArrayList" "elementData" "[Ljava/lang/Object;" (.ref b)) (F2 : Fld Z h0 a "java/util/ArrayList" "size" "I" (.int (2 : Int32))) (A : Arv Z h0 b kb (.object "java/lang/Object") (10 : Int32) [(.ref x), (.ref y), .null, .null, .null, .null, .null, .null, .null, .null] .null) :
    MetFree l (⟨"java/util/ArrayList", "get", "(I)Ljava/lang/Object;"⟩ : MethodName) (head1 (Jvm.Cond.code (⟨"java/util/ArrayList", "get", "(I)Ljava/lang/Object;"⟩ : MethodName) jdk_38_method_20_code 2 (some (.object "java/lang/Object")) :: ws) ({ frames := 2, cells := 0, slots := 0, locals := 27 } : Room)) (fun aa UU => aa = #[(.ref a), (.int (1 : Int32))] ∧ Z.Warmed39 UU.vm ∧ UU.heap = h0) (fun _ _ _ _ _ => True) (fun _ UU oo U' => ∃ v L, oo = .returned v ∧ Qr (.ref y) h0 n0 v U'.heap L ∧ FrameEnd UU oo U' L ({ frames := 2, cells := 0, slots := 0, locals := 27 } : Room).cells ({ frames := 2, cells := 0, slots := 0, locals := 27 } : Room).slots) := by
  refine MetFree.of_bodySF (plainFor_of_name pn_2) hisR ?_
  intro p e s m args below meth c s₁ Bd hml0 hP hK
  obtain ⟨rfl, hZ, hh⟩ := hP
  have hx := Bd.exec
  have hby := Bd.bytes
  have hml : c.maxLocals = 2 := hml0
  have hown : s.vm.findClass "java/util/ArrayList" = some m.cls := findClass_of_methodNamed Bd.named
  have hnm := (name_of_methodNamed Bd.named Bd.method).1
  have X0 : Stand p l e ({ frames := 2, cells := 0, slots := 0, locals := 27 } : Room) s m #[(.ref a), (.int (1 : Int32))] below meth c s₁ [] 0 0 := Stand.of_body Bd
  have e0 : s₁.heap = h0 := by rw [← hh, Bd.state]; rfl
  have N0 := Fr.nil n0
  obtain ⟨A0, hA0⟩ : ∃ A, A = s₁.setTop (entryFrame m #[(.ref a), (.int (1 : Int32))] 2) := ⟨_, rfl⟩
  have G0 : Go p e below A0 (s₁.setTop (mkF m 0 #[.val (.ref a), .val (.int (1 : Int32))] [])) := fun tq kq => by rw [hA0]; exact castTop (ef_rmGT1 m a (1 : Int32)) kq
  have G190 : Go p e below A0 (s₁.setTop (mkF m 2 #[.val (.ref a), .val (.int (1 : Int32))] [(.ref a), (.int (1 : Int32))])) := fun tq kq => G0 tq (by
    refine XS.iloadN X0.here hx rfl (hb hby d13_0) rfl ?_
    show Steps p.tables e below (s₁.setTop (mkF m 1 #[.val (.ref a), .val (.int (1 : Int32))] [(.int (1 : Int32))])) _
    refine XS.aloadN X0.here hx rfl (hb hby d13_1) rfl rfl ?_
    show Steps p.tables e below (s₁.setTop (mkF m 2 #[.val (.ref a), .val (.int (1 : Int32))] [(.ref a), (.int (1 : Int32))])) _
    exact kq)
  obtain ⟨T191, X191, e191, st191⟩ := getF X0 hx hZ hown (host := "") (Or.inl (hw _ (List.mem_of_getElem? (i := 59) rfl))) Via.refl e0 F2 (g := (mkF m 2 #[.val (.ref a), .val (.int (1 : Int32))] [(.ref a), (.int (1 : Int32))])) rfl rfl (hb hby d13_2)
  have G192 : Go p e below A0 (T191.setTop (mkF m 5 #[.val (.ref a), .val (.int (1 : Int32))] [(.int (2 : Int32)), (.int (1 : Int32))])) := fun tq kq => G190 tq (st191 _ kq)
  obtain ⟨_, _, ⟨T193, L193, k193, n193⟩, -, X193, ⟨Lc193, hQ193, l193, y193, z193⟩, st193⟩ := Jvm.LawKit.callS X191 hx (y := (⟨"java/util/Objects", "checkIndex", "(II)I"⟩ : MethodName)) hown (mvT hZ (hw _ (List.mem_of_getElem? (i := 120) rfl))) (mvT hZ (hw _ (List.mem_of_getElem? (i := 121) rfl))) (mvT hZ (hw _ (List.mem_of_getElem? (i := 122) rfl))) (mvT hZ (hw _ (List.mem_of_getElem? (i := 123) rfl))) (by decide) (backOf (W := 0) (rm14 l Z a0 hw [] (1 : Int32) (2 : Int32) h0 n0 Z0 ⟨by decide, by decide⟩) hZ (hw _ (List.mem_of_getElem? (i := 123) rfl)) (hw _ (List.mem_of_getElem? (i := 122) rfl)) (by decide) (by decide)) (g := (mkF m 5 #[.val (.ref a), .val (.int (1 : Int32))] [(.int (2 : Int32)), (.int (1 : Int32))])) rfl (by rw [hml]; rfl) (argsL := [(.int (1 : Int32)), (.int (2 : Int32))]) (rest := []) (lenOf pd_1 rfl) rfl (by show 2 * 0 + _ ≤ _; exact Nat.le_of_eq rfl) (hb hby d13_5) (fun _ _ => ⟨rfl, e191, (by decide : 0 + 0 ≤ _), (by decide : 0 + 0 ≤ _)⟩)
  dsimp only [Pt.U, Pt.locs, Pt.cells, Pt.slots] at X193 l193 y193 z193 st193 hQ193
  obtain rfl : k193 = 0 := y193
  obtain rfl : n193 = 0 := z193
  obtain ⟨rfl, N193q, e193⟩ := hQ193
  have N193 : Fr n0 L193 := by rw [l193]; exact Fr.app N0 N193q
  have G194 : Go p e below A0 (T193.setTop (mkF m 8 #[.val (.ref a), .val (.int (1 : Int32))] [(.int (1 : Int32))])) := fun tq kq => G192 tq (st193 _ kq)
  have G195 : Go p e below A0 (T193.setTop (mkF m 11 #[.val (.ref a), .val (.int (1 : Int32))] [(.int (1 : Int32)), (.ref a)])) := fun tq kq => G194 tq (by
    refine XS.pop X193.here hx rfl (hb hby d13_8) rfl rfl ?_
    show Steps p.tables e below (T193.setTop (mkF m 9 #[.val (.ref a), .val (.int (1 : Int32))] [])) _
    refine XS.aloadN X193.here hx rfl (hb hby d13_9) rfl rfl ?_
    show Steps p.tables e below (T193.setTop (mkF m 10 #[.val (.ref a), .val (.int (1 : Int32))] [(.ref a)])) _
    refine XS.iloadN X193.here hx rfl (hb hby d13_10) rfl ?_
    show Steps p.tables e below (T193.setTop (mkF m 11 #[.val (.ref a), .val (.int (1 : Int32))] [(.int (1 : Int32)), (.ref a)])) _
    exact kq)
  obtain ⟨cq196, kq196, q196a, q196b, q196c⟩ := isOf hZ e193 E
  obtain ⟨_, _, ⟨T196, L196, k196, n196⟩, -, X196, ⟨Lc196, hQ196, l196, y196, z196⟩, st196⟩ := X193.virtualBack hx (y := (⟨"java/util/ArrayList", "elementData", "(I)Ljava/lang/Object;"⟩ : MethodName)) (z := (⟨"java/util/ArrayList", "elementData", "(I)Ljava/lang/Object;"⟩ : MethodName)) hown (mvT hZ (hw _ (List.mem_of_getElem? (i := 128) rfl))) (mvT hZ (hw _ (List.mem_of_getElem? (i := 129) rfl))) (notFace_of_selects (args := #[]) (mvT hZ (hw _ (List.mem_of_getElem? (i := 131) rfl)))) (mvT hZ (hw _ (List.mem_of_getElem? (i := 131) rfl))) (mvT hZ (hw _ (List.mem_of_getElem? (i := 130) rfl))) (by decide) (backOf (W := 0) (rmED1 l Z a0 hw [] a b x y kb h0 n0 Z0 E F1 F2 A) hZ (hw _ (List.mem_of_getElem? (i := 132) rfl)) (hw _ (List.mem_of_getElem? (i := 2) rfl)) (by decide) (by decide)) q196a q196c (g := (mkF m 11 #[.val (.ref a), .val (.int (1 : Int32))] [(.int (1 : Int32)), (.ref a)])) rfl (by rw [hml]; rfl) (Steps.refl _) (argsL := [(.int (1 : Int32))]) (rest := []) (lenOf pd_6 rfl) rfl (by show 2 * 0 + _ ≤ _; exact Nat.le_of_eq rfl) (hb hby d13_11) (fun _ _ => ⟨rfl, e193, (by decide : 0 + 0 ≤ _), (by decide : 0 + 0 ≤ _)⟩)
  dsimp only [Pt.U, Pt.locs, Pt.cells, Pt.slots] at X196 l196 y196 z196 st196 hQ196
  obtain rfl : k196 = 0 := y196
  obtain rfl : n196 = 0 := z196
  obtain ⟨rfl, N196q, e196⟩ := hQ196
  have N196 : Fr n0 L196 := by rw [l196]; exact Fr.app N193 N196q
  have G197 : Go p e below A0 (T196.setTop (mkF m 14 #[.val (.ref a), .val (.int (1 : Int32))] [(.ref y)])) := fun tq kq => G195 tq (st196.trans kq)
  obtain ⟨fs, hr, hrun, hended, hW, hsame⟩ := X196.leave (v := some (.ref y)) (fun h => by rw [Bd.returns] at h; cases h)
  refine ⟨_, _, (by rw [← hA0]; exact G197 _ (retOut X196 hx (t := (.object "java/lang/Object")) Bd.returns rfl (Or.inr (Or.inr (Or.inr (Or.inr ⟨rfl, rfl, rfl⟩)))) (hb hby d13_14) hr)), hrun, hended, _, _, rfl, ?_, ⟨_, rfl⟩, hW, hsame.mono (by decide) (by decide)⟩
  exact ⟨rfl, N196, e196⟩
def Ai (Z : State) (h : Heap) (a : Addr) (n : Int32) (f : Nat → Int32) : Prop := ∃ k, Af Z h a k .int n (fun i => .int (f i))
def Ar2 (Z : State) (h : Heap) (a x y : Addr) : Prop := ∃ k, Arv Z h a k (.array .int) (2 : Int32) [.ref x, .ref y] .null
def own_up (f : Nat → Int32) (i : Nat) (v : Int32) : Nat → Int32 := fun j => if j = i then v else f j
theorem own_upf (f : Nat → Int32) (a b : Nat) (v : Int32) (h : a = b) (j : Nat) : (if j = a then Value.int v else (fun i => Value.int (f i)) j) = .int (own_up f b v j) := by subst h; unfold own_up; split <;> rfl
def own_id (j : Nat) : Int32 := Int32.ofNat j
def own_zero (j : Nat) : Int32 := 0
def own_sz (j : Nat) : Int32 := if j = 0 then (4 : Int32) else (2 : Int32)
/-- the eleven objects stand one behind the other -/
def Ord (n0 : Nat) (d mem pos siz mrk m0 p0 k0 m1 p1 k1 : Addr) : Prop := @LE.le Nat _ n0 d ∧ @LT.lt Nat _ d mem ∧ @LT.lt Nat _ mem pos ∧ @LT.lt Nat _ pos siz ∧ @LT.lt Nat _ siz mrk ∧ @LT.lt Nat _ mrk m0 ∧ @LT.lt Nat _ m0 p0 ∧ @LT.lt Nat _ p0 k0 ∧ @LT.lt Nat _ k0 m1 ∧ @LT.lt Nat _ m1 p1 ∧ @LT.lt Nat _ p1 k1
def Dom (Z : State) (h : Heap) (d mem pos siz mrk m0 p0 k0 m1 p1 k1 : Addr) (rd : Int32) (fsz fm0 fp0 fk0 fm1 fp1 fk1 : Nat → Int32) : Prop := Exa Z h d "com/example/ludarc/ludarc/engine/Domains" ∧ Fld Z h d "com/example/ludarc/ludarc/engine/Domains" "round" "I" (.int rd) ∧ Fld Z h d "com/example/ludarc/ludarc/engine/Domains" "members" "[[I" (.ref mem) ∧ Fld Z h d "com/example/ludarc/ludarc/engine/Domains" "positions" "[[I" (.ref pos) ∧ Fld Z h d "com/example/ludarc/ludarc/engine/Domains" "sizes" "[I" (.ref siz) ∧ Fld Z h d "com/example/ludarc/ludarc/engine/Domains" "marks" "[[I" (.ref mrk) ∧ Ar2 Z h mem m0 m1 ∧ Ar2 Z h pos p0 p1 ∧ Ar2 Z h mrk k0 k1 ∧ Ai Z h siz (2 : Int32) fsz ∧ Ai Z h m0 (4 : Int32) fm0 ∧ Ai Z h p0 (4 : Int32) fp0 ∧ Ai Z h k0 (4 : Int32) fk0 ∧ Ai Z h m1 (2 : Int32) fm1 ∧ Ai Z h p1 (2 : Int32) fp1 ∧ Ai Z h k1 (2 : Int32) fk1
theorem own_ai {Z : State} {h : Heap} {a : Addr} {k : ClassId} {n : Int32} {vs : List Value} {f : Nat → Int32} (F : Arv Z h a k .int n vs (.int (0 : Int32))) (e : ∀ j, j < n.toNatClampNeg → vs.getD j (.int (0 : Int32)) = .int (f j)) : Ai Z h a n f := ⟨k, (Af.of F).fn e⟩
def Qd (Z : State) (d : Addr) (h0 : Heap) (n0 : Nat) (v : Option Value) (h : Heap) (L : List Loc) : Prop := ∃ mem pos siz mrk m0 p0 k0 m1 p1 k1, v = none ∧ Fr n0 L ∧ Keep h0 h [d] ∧ h0.size ≤ mem ∧ Ord n0 d mem pos siz mrk m0 p0 k0 m1 p1 k1 ∧ Dom Z h d mem pos siz mrk m0 p0 k0 m1 p1 k1 (1 : Int32) own_sz own_id own_id own_zero own_id own_id own_zero
theorem own_lid2 : ∀ j, j < (2 : Int32).toNatClampNeg → ([(.int (0 : Int32)), (.int (1 : Int32))] : List Value).getD j (.int (0 : Int32)) = .int (own_id j) := by
  intro j hj
  have hj' : j < 2 := hj
  match j, hj' with
  | 0, _ => rfl
  | 1, _ => rfl
theorem own_lz2 : ∀ j, j < (2 : Int32).toNatClampNeg → ([(.int (0 : Int32)), (.int (0 : Int32))] : List Value).getD j (.int (0 : Int32)) = .int (own_zero j) := by
  intro j hj
  have hj' : j < 2 := hj
  match j, hj' with
  | 0, _ => rfl
  | 1, _ => rfl
theorem own_lid4 : ∀ j, j < (4 : Int32).toNatClampNeg → ([(.int (0 : Int32)), (.int (1 : Int32)), (.int (2 : Int32)), (.int (3 : Int32))] : List Value).getD j (.int (0 : Int32)) = .int (own_id j) := by
  intro j hj
  have hj' : j < 4 := hj
  match j, hj' with
  | 0, _ => rfl
  | 1, _ => rfl
  | 2, _ => rfl
  | 3, _ => rfl
theorem own_lz4 : ∀ j, j < (4 : Int32).toNatClampNeg → ([(.int (0 : Int32)), (.int (0 : Int32)), (.int (0 : Int32)), (.int (0 : Int32))] : List Value).getD j (.int (0 : Int32)) = .int (own_zero j) := by
  intro j hj
  have hj' : j < 4 := hj
  match j, hj' with
  | 0, _ => rfl
  | 1, _ => rfl
  | 2, _ => rfl
  | 3, _ => rfl
theorem own_lsz : ∀ j, j < (2 : Int32).toNatClampNeg → ([(.int (4 : Int32)), (.int (2 : Int32))] : List Value).getD j (.int (0 : Int32)) = .int (own_sz j) := by
  intro j hj
  have hj' : j < 2 := hj
  match j, hj' with
  | 0, _ => rfl
  | 1, _ => rfl
set_option maxRecDepth 65536 in
set_option maxHeartbeats 40000000 in
theorem rm11 (l : Launch) (Z : State) (a0 : Array Value) (hw : ∀ d ∈ tables_1, d.before a0 Z = true) (ws : List Jvm.Cond) (d a b x y cx cy : Addr) (kb kx ky : ClassId) (vsx vsy : List Value) (h0 : Heap) (n0 : Nat) (Z0 : n0 ≤ h0.size) (Ed : Exa Z h0 d "com/example/ludarc/ludarc/engine/Domains") (gd : n0 ≤ d) (D0_ : Fld Z h0 d "com/example/ludarc/ludarc/engine/Domains" "round" "I" (.int (0 : Int32))) (D1_ : Fld Z h0 d "com/example/ludarc/ludarc/engine/Domains" "members" "[[I" .null) (D2_ : Fld Z h0 d "com/example/ludarc/ludarc/engine/Domains" "positions" "[[I" .null) (D3_ : Fld Z h0 d "com/example/ludarc/ludarc/engine/Domains" "sizes" "[I" .null) (D4_ : Fld Z h0 d "com/example/ludarc/ludarc/engine/Domains" "marks" "[[I" .null) (E : Exa Z h0 a "java/util/ArrayList") (F1 : Fld Z h0 a "java/util/ArrayList" "elementData" "[Ljava/lang/Object;" (.ref b)) (F2 : Fld Z h0 a "java/util/ArrayList" "size" "I" (.int (2 : Int32))) (A : Arv Z h0 b kb (.object "java/lang/Object") (10 : Int32) [(.ref x), (.ref y), .null, .null, .null, .null, .null, .null, .null, .null] .null) (Ex : Exa Z h0 x "com/example/ludarc/ludarc/engine/Variable") (Fx : Fld Z h0 x "com/example/ludarc/ludarc/engine/Variable" "values" "[I" (.ref cx)) (Ax : Arv Z h0 cx kx .int (4 : Int32) vsx (.int (0 : Int32))) (Ey : Exa Z h0 y "com/example/ludarc/ludarc/engine/Variable") (Fy : Fld Z h0 y "com/example/ludarc/ludarc/engine/Variable" "values" "[I" (.ref cy)) (Ay : Arv Z h0 cy ky .int (2 : Int32) vsy (.int (0 : Int32))) (hn_a : d ≠ a) (hn_b : d ≠ b) (hn_x : d ≠ x) (hn_y : d ≠ y) (hn_cx : d ≠ cx) (hn_cy : d ≠ cy) :
    MetFree l (⟨"com/example/ludarc/ludarc/engine/Domains", "<init>", "(Ljava/util/List;)V"⟩ : MethodName) (head1 (Jvm.Cond.code (⟨"com/example/ludarc/ludarc/engine/Domains", "<init>", "(Ljava/util/List;)V"⟩ : MethodName) prog_5_method_1_code 5 none :: ws) ({ frames := 3, cells := 10, slots := 26, locals := 40 } : Room)) (fun aa UU => aa = #[(.ref d), (.ref a)] ∧ Z.Warmed39 UU.vm ∧ UU.heap = h0) (fun _ _ _ _ _ => True) (fun _ UU oo U' => ∃ v L, oo = .returned v ∧ Qd Z d h0 n0 v U'.heap L ∧ FrameEnd UU oo U' L ({ frames := 3, cells := 10, slots := 26, locals := 40 } : Room).cells ({ frames := 3, cells := 10, slots := 26, locals := 40 } : Room).slots) := by
  refine MetFree.of_bodySF (plainFor_of_name pn_6) hisR ?_
  intro p e s m args below meth c s₁ Bd hml0 hP hK
  obtain ⟨rfl, hZ, hh⟩ := hP
  have hx := Bd.exec
  have hby := Bd.bytes
  have hml : c.maxLocals = 5 := hml0
  have hown : s.vm.findClass "com/example/ludarc/ludarc/engine/Domains" = some m.cls := findClass_of_methodNamed Bd.named
  have hnm := (name_of_methodNamed Bd.named Bd.method).1
  have X0 : Stand p l e ({ frames := 3, cells := 10, slots := 26, locals := 40 } : Room) s m #[(.ref d), (.ref a)] below meth c s₁ [] 0 0 := Stand.of_body Bd
  have e0 : s₁.heap = h0 := by rw [← hh, Bd.state]; rfl
  have N0 := Fr.nil n0
  obtain ⟨A0, hA0⟩ : ∃ A, A = s₁.setTop (entryFrame m #[(.ref d), (.ref a)] 5) := ⟨_, rfl⟩
  have G0 : Go p e below A0 (s₁.setTop (mkF m 0 #[.val (.ref d), .val (.ref a), .unset, .unset, .unset] [])) := fun tq kq => by rw [hA0]; exact castTop (ef_rm11 m d a) kq
  have G198 : Go p e below A0 (s₁.setTop (mkF m 1 #[.val (.ref d), .val (.ref a), .unset, .unset, .unset] [(.ref d)])) := fun tq kq => G0 tq (by
    refine XS.aloadN X0.here hx rfl (hb hby d11_0) rfl rfl ?_
    show Steps p.tables e below (s₁.setTop (mkF m 1 #[.val (.ref d), .val (.ref a), .unset, .unset, .unset] [(.ref d)])) _
    exact kq)
  obtain ⟨T199, X199, e199, st199⟩ := initO X0 hx hZ hown (hw _ (List.mem_of_getElem? (i := 90) rfl)) (hw _ (List.mem_of_getElem? (i := 19) rfl)) (hw _ (List.mem_of_getElem? (i := 20) rfl)) e0 (g := (mkF m 1 #[.val (.ref d), .val (.ref a), .unset, .unset, .unset] [(.ref d)])) rfl (by rw [hml]; rfl) rfl (hb hby d11_1) (by decide) (W := 0) (by show 2 * 0 + _ ≤ _; exact Nat.le_of_eq rfl) (by decide)
  have G200 : Go p e below A0 (T199.setTop (mkF m 4 #[.val (.ref d), .val (.ref a), .unset, .unset, .unset] [])) := fun tq kq => G198 tq (st199 _ kq)
  have G201 : Go p e below A0 (T199.setTop (mkF m 6 #[.val (.ref d), .val (.ref a), .unset, .unset, .unset] [(.int (1 : Int32)), (.ref d)])) := fun tq kq => G200 tq (by
    refine XS.aloadN X199.here hx rfl (hb hby d11_4) rfl rfl ?_
    show Steps p.tables e below (T199.setTop (mkF m 5 #[.val (.ref d), .val (.ref a), .unset, .unset, .unset] [(.ref d)])) _
    refine XS.iconst X199.here hx rfl (hb hby d11_5) ?_
    show Steps p.tables e below (T199.setTop (mkF m 6 #[.val (.ref d), .val (.ref a), .unset, .unset, .unset] [(.int (1 : Int32)), (.ref d)])) _
    exact kq)
  obtain ⟨T202, h202, X202, e202, W202, st202⟩ := putF X199 hx hZ hown (host := "") (Or.inl (hw _ (List.mem_of_getElem? (i := 91) rfl))) Via.refl e199 D0_ Ed (Or.inl (hw _ (List.mem_of_getElem? (i := 92) rfl))) (hw _ (List.mem_of_getElem? (i := 85) rfl)) (ty := .int) (by decide) rfl rfl (g := (mkF m 6 #[.val (.ref d), .val (.ref a), .unset, .unset, .unset] [(.int (1 : Int32)), (.ref d)])) rfl rfl (hb hby d11_6)
  have N202 := Fr.snoc X202 N0 gd
  have fw202 := D0_.same W202
  have G203 : Go p e below A0 (T202.setTop (mkF m 9 #[.val (.ref d), .val (.ref a), .unset, .unset, .unset] [])) := fun tq kq => G201 tq (st202 _ kq)
  have G204 : Go p e below A0 (T202.setTop (mkF m 11 #[.val (.ref d), .val (.ref a), .unset, .unset, .unset] [(.ref a), (.ref d)])) := fun tq kq => G203 tq (by
    refine XS.aloadN X202.here hx rfl (hb hby d11_9) rfl rfl ?_
    show Steps p.tables e below (T202.setTop (mkF m 10 #[.val (.ref d), .val (.ref a), .unset, .unset, .unset] [(.ref d)])) _
    refine XS.aloadN X202.here hx rfl (hb hby d11_10) rfl rfl ?_
    show Steps p.tables e below (T202.setTop (mkF m 11 #[.val (.ref d), .val (.ref a), .unset, .unset, .unset] [(.ref a), (.ref d)])) _
    exact kq)
  have f206 := (Nat.le_trans Z0 (Keep.of_wr W202).1)
  have f207 := (F2.other W202 (Or.inl (Ne.symm hn_a)))
  have f208 := (E.wr W202)
  obtain ⟨cq205, kq205, q205a, q205b, q205c⟩ := isOf hZ e202 f208
  obtain ⟨_, _, ⟨T205, L205, k205, n205⟩, -, X205, ⟨Lc205, hQ205, l205, y205, z205⟩, st205⟩ := X202.interfaceBack hx (xi := (⟨"java/util/List", "size", "()I"⟩ : MethodName)) (y := (⟨"java/util/ArrayList", "size", "()I"⟩ : MethodName)) hown (mvT hZ (hw _ (List.mem_of_getElem? (i := 93) rfl))) (mvT hZ (hw _ (List.mem_of_getElem? (i := 94) rfl))) (mvT hZ (hw _ (List.mem_of_getElem? (i := 95) rfl))) (mvT hZ (hw _ (List.mem_of_getElem? (i := 96) rfl))) (mvT hZ (hw _ (List.mem_of_getElem? (i := 97) rfl))) (mvT hZ (hw _ (List.mem_of_getElem? (i := 98) rfl))) (mvT hZ (hw _ (List.mem_of_getElem? (i := 99) rfl))) (mvT hZ (hw _ (List.mem_of_getElem? (i := 100) rfl))) (by decide) (backOf (W := 1) (rm12 l Z a0 hw [] a (2 : Int32) h202 n0 f206 f207) hZ (hw _ (List.mem_of_getElem? (i := 101) rfl)) (hw _ (List.mem_of_getElem? (i := 2) rfl)) (by decide) (by decide)) q205a q205b q205c (g := (mkF m 11 #[.val (.ref d), .val (.ref a), .unset, .unset, .unset] [(.ref a), (.ref d)])) rfl (by rw [hml]; rfl) (Steps.refl _) (argsL := []) (rest := [(.ref d)]) (lenOf pd_7 rfl) rfl (by show 2 * 0 + _ ≤ _; exact Nat.le_of_eq rfl) (hb hby d11_11) (fun _ _ => ⟨rfl, e202, (by decide : 0 + 0 ≤ _), (by decide : 0 + 0 ≤ _)⟩)
  dsimp only [Pt.U, Pt.locs, Pt.cells, Pt.slots] at X205 l205 y205 z205 st205 hQ205
  obtain rfl : k205 = 0 := y205
  obtain rfl : n205 = 0 := z205
  obtain ⟨rfl, N205q, e205⟩ := hQ205
  have N205 : Fr n0 L205 := by rw [l205]; exact Fr.app N202 N205q
  have G209 : Go p e below A0 (T205.setTop (mkF m 16 #[.val (.ref d), .val (.ref a), .unset, .unset, .unset] [(.int (2 : Int32)), (.ref d)])) := fun tq kq => G204 tq (st205.trans kq)
  obtain ⟨T210, h210, k210, X210, e210, E210, A210, -, O210, st210⟩ := newRA X205 hx hZ hown (C := "[I") (by decide) (hw _ (List.mem_of_getElem? (i := 102) rfl)) (hw _ (List.mem_of_getElem? (i := 103) rfl)) e205 (g := (mkF m 16 #[.val (.ref d), .val (.ref a), .unset, .unset, .unset] [(.int (2 : Int32)), (.ref d)])) rfl (hb hby d11_16) rfl (by decide) (cap := 2) (by decide) (by decide) (by decide) (by decide) (ad := "[[I") (by decide)
  obtain ⟨b210, g210⟩ : ∃ z, z = h202.size := ⟨_, rfl⟩
  rw [← g210] at A210 st210
  have f211 := (Nat.le_trans (Nat.le_refl h0.size) (Keep.of_wr W202).1)
  have sz_b210 : h0.size ≤ b210 := Nat.le_trans f211 (Nat.le_of_eq g210.symm)
  have g_b210 : n0 ≤ b210 := Nat.le_trans f206 (Nat.le_of_eq g210.symm)
  have lt_d_b210 : d < b210 := Nat.lt_of_lt_of_le (Ed.wr W202).lt (Nat.le_of_eq g210.symm)
  have lt_a_b210 : a < b210 := Nat.lt_of_lt_of_le f208.lt (Nat.le_of_eq g210.symm)
  have lt_b_b210 : b < b210 := Nat.lt_of_lt_of_le (A.other W202 (Ne.symm hn_b)).lt (Nat.le_of_eq g210.symm)
  have lt_x_b210 : x < b210 := Nat.lt_of_lt_of_le (Ex.wr W202).lt (Nat.le_of_eq g210.symm)
  have lt_cx_b210 : cx < b210 := Nat.lt_of_lt_of_le (Ax.other W202 (Ne.symm hn_cx)).lt (Nat.le_of_eq g210.symm)
  have lt_y_b210 : y < b210 := Nat.lt_of_lt_of_le (Ey.wr W202).lt (Nat.le_of_eq g210.symm)
  have lt_cy_b210 : cy < b210 := Nat.lt_of_lt_of_le (Ay.other W202 (Ne.symm hn_cy)).lt (Nat.le_of_eq g210.symm)
  have V210 : Arv Z h210 b210 k210 (.array .int) (2 : Int32) [.null, .null] .null := (Arv.new A210 (by decide)).pad (pad_rep [] .null 2)
  have G212 : Go p e below A0 (T210.setTop (mkF m 19 #[.val (.ref d), .val (.ref a), .unset, .unset, .unset] [(.ref b210), (.ref d)])) := fun tq kq => G209 tq (st210 _ kq)
  have f213 := ((Ed.wr W202).ext E210)
  have f214 := ((D1_.other W202 (Or.inr (slot_ne (Or.inr (hw _ (List.mem_of_getElem? (i := 105) rfl))) (Or.inl (hw _ (List.mem_of_getElem? (i := 92) rfl))) (by decide) (t := (.array (.array .int))) (t' := .int) (by decide) (by decide)))).ext E210)
  obtain ⟨T215, h215, X215, e215, W215, st215⟩ := putF X210 hx hZ hown (host := "") (Or.inl (hw _ (List.mem_of_getElem? (i := 104) rfl))) Via.refl e210 f214 f213 (Or.inr ⟨(hw _ (List.mem_of_getElem? (i := 105) rfl)), rfl, hnm⟩) (hw _ (List.mem_of_getElem? (i := 85) rfl)) (ty := (.array (.array .int))) (by decide) rfl rfl (g := (mkF m 19 #[.val (.ref d), .val (.ref a), .unset, .unset, .unset] [(.ref b210), (.ref d)])) rfl rfl (hb hby d11_19)
  have N215 := Fr.snoc X215 N205 gd
  have fw215 := f214.same W215
  have G216 : Go p e below A0 (T215.setTop (mkF m 22 #[.val (.ref d), .val (.ref a), .unset, .unset, .unset] [])) := fun tq kq => G212 tq (st215 _ kq)
  have G217 : Go p e below A0 (T215.setTop (mkF m 24 #[.val (.ref d), .val (.ref a), .unset, .unset, .unset] [(.ref a), (.ref d)])) := fun tq kq => G216 tq (by
    refine XS.aloadN X215.here hx rfl (hb hby d11_22) rfl rfl ?_
    show Steps p.tables e below (T215.setTop (mkF m 23 #[.val (.ref d), .val (.ref a), .unset, .unset, .unset] [(.ref d)])) _
    refine XS.aloadN X215.here hx rfl (hb hby d11_23) rfl rfl ?_
    show Steps p.tables e below (T215.setTop (mkF m 24 #[.val (.ref d), .val (.ref a), .unset, .unset, .unset] [(.ref a), (.ref d)])) _
    exact kq)
  have f219 := (Nat.le_trans (Nat.le_trans f206 E210.1) (Keep.of_wr W215).1)
  have f220 := ((f207.ext E210).other W215 (Or.inl (Ne.symm hn_a)))
  have f221 := ((f208.ext E210).wr W215)
  obtain ⟨cq218, kq218, q218a, q218b, q218c⟩ := isOf hZ e215 f221
  obtain ⟨_, _, ⟨T218, L218, k218, n218⟩, -, X218, ⟨Lc218, hQ218, l218, y218, z218⟩, st218⟩ := X215.interfaceBack hx (xi := (⟨"java/util/List", "size", "()I"⟩ : MethodName)) (y := (⟨"java/util/ArrayList", "size", "()I"⟩ : MethodName)) hown (mvT hZ (hw _ (List.mem_of_getElem? (i := 93) rfl))) (mvT hZ (hw _ (List.mem_of_getElem? (i := 94) rfl))) (mvT hZ (hw _ (List.mem_of_getElem? (i := 95) rfl))) (mvT hZ (hw _ (List.mem_of_getElem? (i := 96) rfl))) (mvT hZ (hw _ (List.mem_of_getElem? (i := 97) rfl))) (mvT hZ (hw _ (List.mem_of_getElem? (i := 98) rfl))) (mvT hZ (hw _ (List.mem_of_getElem? (i := 99) rfl))) (mvT hZ (hw _ (List.mem_of_getElem? (i := 100) rfl))) (by decide) (backOf (W := 1) (rm12 l Z a0 hw [] a (2 : Int32) h215 n0 f219 f220) hZ (hw _ (List.mem_of_getElem? (i := 101) rfl)) (hw _ (List.mem_of_getElem? (i := 2) rfl)) (by decide) (by decide)) q218a q218b q218c (g := (mkF m 24 #[.val (.ref d), .val (.ref a), .unset, .unset, .unset] [(.ref a), (.ref d)])) rfl (by rw [hml]; rfl) (Steps.refl _) (argsL := []) (rest := [(.ref d)]) (lenOf pd_7 rfl) rfl (by show 2 * 0 + _ ≤ _; exact Nat.le_of_eq rfl) (hb hby d11_24) (fun _ _ => ⟨rfl, e215, (by decide : 1 + 0 ≤ _), (by decide : 2 + 0 ≤ _)⟩)
  dsimp only [Pt.U, Pt.locs, Pt.cells, Pt.slots] at X218 l218 y218 z218 st218 hQ218
  obtain rfl : k218 = 1 := y218
  obtain rfl : n218 = 2 := z218
  obtain ⟨rfl, N218q, e218⟩ := hQ218
  have N218 : Fr n0 L218 := by rw [l218]; exact Fr.app N215 N218q
  have G222 : Go p e below A0 (T218.setTop (mkF m 29 #[.val (.ref d), .val (.ref a), .unset, .unset, .unset] [(.int (2 : Int32)), (.ref d)])) := fun tq kq => G217 tq (st218.trans kq)
  obtain ⟨T223, h223, k223, X223, e223, E223, A223, -, O223, st223⟩ := newRA X218 hx hZ hown (C := "[I") (by decide) (hw _ (List.mem_of_getElem? (i := 102) rfl)) (hw _ (List.mem_of_getElem? (i := 103) rfl)) e218 (g := (mkF m 29 #[.val (.ref d), .val (.ref a), .unset, .unset, .unset] [(.int (2 : Int32)), (.ref d)])) rfl (hb hby d11_29) rfl (by decide) (cap := 2) (by decide) (by decide) (by decide) (by decide) (ad := "[[I") (by decide)
  obtain ⟨b223, g223⟩ : ∃ z, z = h215.size := ⟨_, rfl⟩
  rw [← g223] at A223 st223
  have f224 := (Nat.le_trans (Nat.le_trans f211 E210.1) (Keep.of_wr W215).1)
  have sz_b223 : h0.size ≤ b223 := Nat.le_trans f224 (Nat.le_of_eq g223.symm)
  have g_b223 : n0 ≤ b223 := Nat.le_trans f219 (Nat.le_of_eq g223.symm)
  have lt_d_b223 : d < b223 := Nat.lt_of_lt_of_le (f213.wr W215).lt (Nat.le_of_eq g223.symm)
  have lt_a_b223 : a < b223 := Nat.lt_of_lt_of_le f221.lt (Nat.le_of_eq g223.symm)
  have lt_b_b223 : b < b223 := Nat.lt_of_lt_of_le (((A.other W202 (Ne.symm hn_b)).ext E210).other W215 (Ne.symm hn_b)).lt (Nat.le_of_eq g223.symm)
  have lt_x_b223 : x < b223 := Nat.lt_of_lt_of_le (((Ex.wr W202).ext E210).wr W215).lt (Nat.le_of_eq g223.symm)
  have lt_cx_b223 : cx < b223 := Nat.lt_of_lt_of_le (((Ax.other W202 (Ne.symm hn_cx)).ext E210).other W215 (Ne.symm hn_cx)).lt (Nat.le_of_eq g223.symm)
  have lt_y_b223 : y < b223 := Nat.lt_of_lt_of_le (((Ey.wr W202).ext E210).wr W215).lt (Nat.le_of_eq g223.symm)
  have lt_cy_b223 : cy < b223 := Nat.lt_of_lt_of_le (((Ay.other W202 (Ne.symm hn_cy)).ext E210).other W215 (Ne.symm hn_cy)).lt (Nat.le_of_eq g223.symm)
  have lt_b210_b223 : b210 < b223 := Nat.lt_of_lt_of_le (V210.other W215 (Ne.symm (Nat.ne_of_lt lt_d_b210))).lt (Nat.le_of_eq g223.symm)
  have V223 : Arv Z h223 b223 k223 (.array .int) (2 : Int32) [.null, .null] .null := (Arv.new A223 (by decide)).pad (pad_rep [] .null 2)
  have G225 : Go p e below A0 (T223.setTop (mkF m 32 #[.val (.ref d), .val (.ref a), .unset, .unset, .unset] [(.ref b223), (.ref d)])) := fun tq kq => G222 tq (st223 _ kq)
  have f226 := ((f213.wr W215).ext E223)
  have f227 := ((((D2_.other W202 (Or.inr (slot_ne (Or.inr (hw _ (List.mem_of_getElem? (i := 107) rfl))) (Or.inl (hw _ (List.mem_of_getElem? (i := 92) rfl))) (by decide) (t := (.array (.array .int))) (t' := .int) (by decide) (by decide)))).ext E210).other W215 (Or.inr (slot_ne (Or.inr (hw _ (List.mem_of_getElem? (i := 107) rfl))) (Or.inr (hw _ (List.mem_of_getElem? (i := 105) rfl))) (by decide) (t := (.array (.array .int))) (t' := (.array (.array .int))) (by decide) (by decide)))).ext E223)
  obtain ⟨T228, h228, X228, e228, W228, st228⟩ := putF X223 hx hZ hown (host := "") (Or.inl (hw _ (List.mem_of_getElem? (i := 106) rfl))) Via.refl e223 f227 f226 (Or.inr ⟨(hw _ (List.mem_of_getElem? (i := 107) rfl)), rfl, hnm⟩) (hw _ (List.mem_of_getElem? (i := 85) rfl)) (ty := (.array (.array .int))) (by decide) rfl rfl (g := (mkF m 32 #[.val (.ref d), .val (.ref a), .unset, .unset, .unset] [(.ref b223), (.ref d)])) rfl rfl (hb hby d11_32)
  have N228 := Fr.snoc X228 N218 gd
  have fw228 := f227.same W228
  have G229 : Go p e below A0 (T228.setTop (mkF m 35 #[.val (.ref d), .val (.ref a), .unset, .unset, .unset] [])) := fun tq kq => G225 tq (st228 _ kq)
  have G230 : Go p e below A0 (T228.setTop (mkF m 37 #[.val (.ref d), .val (.ref a), .unset, .unset, .unset] [(.ref a), (.ref d)])) := fun tq kq => G229 tq (by
    refine XS.aloadN X228.here hx rfl (hb hby d11_35) rfl rfl ?_
    show Steps p.tables e below (T228.setTop (mkF m 36 #[.val (.ref d), .val (.ref a), .unset, .unset, .unset] [(.ref d)])) _
    refine XS.aloadN X228.here hx rfl (hb hby d11_36) rfl rfl ?_
    show Steps p.tables e below (T228.setTop (mkF m 37 #[.val (.ref d), .val (.ref a), .unset, .unset, .unset] [(.ref a), (.ref d)])) _
    exact kq)
  have f232 := (Nat.le_trans (Nat.le_trans f219 E223.1) (Keep.of_wr W228).1)
  have f233 := ((f220.ext E223).other W228 (Or.inl (Ne.symm hn_a)))
  have f234 := ((f221.ext E223).wr W228)
  obtain ⟨cq231, kq231, q231a, q231b, q231c⟩ := isOf hZ e228 f234
  obtain ⟨_, _, ⟨T231, L231, k231, n231⟩, -, X231, ⟨Lc231, hQ231, l231, y231, z231⟩, st231⟩ := X228.interfaceBack hx (xi := (⟨"java/util/List", "size", "()I"⟩ : MethodName)) (y := (⟨"java/util/ArrayList", "size", "()I"⟩ : MethodName)) hown (mvT hZ (hw _ (List.mem_of_getElem? (i := 93) rfl))) (mvT hZ (hw _ (List.mem_of_getElem? (i := 94) rfl))) (mvT hZ (hw _ (List.mem_of_getElem? (i := 95) rfl))) (mvT hZ (hw _ (List.mem_of_getElem? (i := 96) rfl))) (mvT hZ (hw _ (List.mem_of_getElem? (i := 97) rfl))) (mvT hZ (hw _ (List.mem_of_getElem? (i := 98) rfl))) (mvT hZ (hw _ (List.mem_of_getElem? (i := 99) rfl))) (mvT hZ (hw _ (List.mem_of_getElem? (i := 100) rfl))) (by decide) (backOf (W := 1) (rm12 l Z a0 hw [] a (2 : Int32) h228 n0 f232 f233) hZ (hw _ (List.mem_of_getElem? (i := 101) rfl)) (hw _ (List.mem_of_getElem? (i := 2) rfl)) (by decide) (by decide)) q231a q231b q231c (g := (mkF m 37 #[.val (.ref d), .val (.ref a), .unset, .unset, .unset] [(.ref a), (.ref d)])) rfl (by rw [hml]; rfl) (Steps.refl _) (argsL := []) (rest := [(.ref d)]) (lenOf pd_7 rfl) rfl (by show 2 * 0 + _ ≤ _; exact Nat.le_of_eq rfl) (hb hby d11_37) (fun _ _ => ⟨rfl, e228, (by decide : 2 + 0 ≤ _), (by decide : 4 + 0 ≤ _)⟩)
  dsimp only [Pt.U, Pt.locs, Pt.cells, Pt.slots] at X231 l231 y231 z231 st231 hQ231
  obtain rfl : k231 = 2 := y231
  obtain rfl : n231 = 4 := z231
  obtain ⟨rfl, N231q, e231⟩ := hQ231
  have N231 : Fr n0 L231 := by rw [l231]; exact Fr.app N228 N231q
  have G235 : Go p e below A0 (T231.setTop (mkF m 42 #[.val (.ref d), .val (.ref a), .unset, .unset, .unset] [(.int (2 : Int32)), (.ref d)])) := fun tq kq => G230 tq (st231.trans kq)
  obtain ⟨T236, h236, k236, X236, e236, E236, A236, Ex236, st236⟩ := newPE X231 hx hZ (hw _ (List.mem_of_getElem? (i := 37) rfl)) e231 (g := (mkF m 42 #[.val (.ref d), .val (.ref a), .unset, .unset, .unset] [(.int (2 : Int32)), (.ref d)])) rfl (hb hby d11_42) rfl (by decide) (cap := 2) (by decide) (by decide) (by decide) (by decide) (ad := "[I") (by decide)
  obtain ⟨b236, g236⟩ : ∃ z, z = h228.size := ⟨_, rfl⟩
  rw [← g236] at A236 st236 Ex236
  have f237 := (Nat.le_trans (Nat.le_trans f224 E223.1) (Keep.of_wr W228).1)
  have sz_b236 : h0.size ≤ b236 := Nat.le_trans f237 (Nat.le_of_eq g236.symm)
  have g_b236 : n0 ≤ b236 := Nat.le_trans f232 (Nat.le_of_eq g236.symm)
  have lt_d_b236 : d < b236 := Nat.lt_of_lt_of_le (f226.wr W228).lt (Nat.le_of_eq g236.symm)
  have lt_a_b236 : a < b236 := Nat.lt_of_lt_of_le f234.lt (Nat.le_of_eq g236.symm)
  have lt_b_b236 : b < b236 := Nat.lt_of_lt_of_le (((((A.other W202 (Ne.symm hn_b)).ext E210).other W215 (Ne.symm hn_b)).ext E223).other W228 (Ne.symm hn_b)).lt (Nat.le_of_eq g236.symm)
  have lt_x_b236 : x < b236 := Nat.lt_of_lt_of_le (((((Ex.wr W202).ext E210).wr W215).ext E223).wr W228).lt (Nat.le_of_eq g236.symm)
  have lt_cx_b236 : cx < b236 := Nat.lt_of_lt_of_le (((((Ax.other W202 (Ne.symm hn_cx)).ext E210).other W215 (Ne.symm hn_cx)).ext E223).other W228 (Ne.symm hn_cx)).lt (Nat.le_of_eq g236.symm)
  have lt_y_b236 : y < b236 := Nat.lt_of_lt_of_le (((((Ey.wr W202).ext E210).wr W215).ext E223).wr W228).lt (Nat.le_of_eq g236.symm)
  have lt_cy_b236 : cy < b236 := Nat.lt_of_lt_of_le (((((Ay.other W202 (Ne.symm hn_cy)).ext E210).other W215 (Ne.symm hn_cy)).ext E223).other W228 (Ne.symm hn_cy)).lt (Nat.le_of_eq g236.symm)
  have lt_b210_b236 : b210 < b236 := Nat.lt_of_lt_of_le (((V210.other W215 (Ne.symm (Nat.ne_of_lt lt_d_b210))).ext E223).other W228 (Ne.symm (Nat.ne_of_lt lt_d_b210))).lt (Nat.le_of_eq g236.symm)
  have lt_b223_b236 : b223 < b236 := Nat.lt_of_lt_of_le (V223.other W228 (Ne.symm (Nat.ne_of_lt lt_d_b223))).lt (Nat.le_of_eq g236.symm)
  have V236 : Arv Z h236 b236 k236 .int (2 : Int32) [(.int (0 : Int32)), (.int (0 : Int32))] (.int (0 : Int32)) := (Arv.new A236 (by decide)).pad (pad_rep [] (.int (0 : Int32)) 2)
  have G238 : Go p e below A0 (T236.setTop (mkF m 44 #[.val (.ref d), .val (.ref a), .unset, .unset, .unset] [(.ref b236), (.ref d)])) := fun tq kq => G235 tq (st236 _ kq)
  have f239 := ((f226.wr W228).ext E236)
  have f240 := ((((((D3_.other W202 (Or.inr (slot_ne (Or.inr (hw _ (List.mem_of_getElem? (i := 109) rfl))) (Or.inl (hw _ (List.mem_of_getElem? (i := 92) rfl))) (by decide) (t := (.array .int)) (t' := .int) (by decide) (by decide)))).ext E210).other W215 (Or.inr (slot_ne (Or.inr (hw _ (List.mem_of_getElem? (i := 109) rfl))) (Or.inr (hw _ (List.mem_of_getElem? (i := 105) rfl))) (by decide) (t := (.array .int)) (t' := (.array (.array .int))) (by decide) (by decide)))).ext E223).other W228 (Or.inr (slot_ne (Or.inr (hw _ (List.mem_of_getElem? (i := 109) rfl))) (Or.inr (hw _ (List.mem_of_getElem? (i := 107) rfl))) (by decide) (t := (.array .int)) (t' := (.array (.array .int))) (by decide) (by decide)))).ext E236)
  obtain ⟨T241, h241, X241, e241, W241, st241⟩ := putF X236 hx hZ hown (host := "") (Or.inl (hw _ (List.mem_of_getElem? (i := 108) rfl))) Via.refl e236 f240 f239 (Or.inr ⟨(hw _ (List.mem_of_getElem? (i := 109) rfl)), rfl, hnm⟩) (hw _ (List.mem_of_getElem? (i := 85) rfl)) (ty := (.array .int)) (by decide) rfl rfl (g := (mkF m 44 #[.val (.ref d), .val (.ref a), .unset, .unset, .unset] [(.ref b236), (.ref d)])) rfl rfl (hb hby d11_44)
  have N241 := Fr.snoc X241 N231 gd
  have fw241 := f240.same W241
  have G242 : Go p e below A0 (T241.setTop (mkF m 47 #[.val (.ref d), .val (.ref a), .unset, .unset, .unset] [])) := fun tq kq => G238 tq (st241 _ kq)
  have G243 : Go p e below A0 (T241.setTop (mkF m 49 #[.val (.ref d), .val (.ref a), .unset, .unset, .unset] [(.ref a), (.ref d)])) := fun tq kq => G242 tq (by
    refine XS.aloadN X241.here hx rfl (hb hby d11_47) rfl rfl ?_
    show Steps p.tables e below (T241.setTop (mkF m 48 #[.val (.ref d), .val (.ref a), .unset, .unset, .unset] [(.ref d)])) _
    refine XS.aloadN X241.here hx rfl (hb hby d11_48) rfl rfl ?_
    show Steps p.tables e below (T241.setTop (mkF m 49 #[.val (.ref d), .val (.ref a), .unset, .unset, .unset] [(.ref a), (.ref d)])) _
    exact kq)
  have f245 := (Nat.le_trans (Nat.le_trans f232 E236.1) (Keep.of_wr W241).1)
  have f246 := ((f233.ext E236).other W241 (Or.inl (Ne.symm hn_a)))
  have f247 := ((f234.ext E236).wr W241)
  obtain ⟨cq244, kq244, q244a, q244b, q244c⟩ := isOf hZ e241 f247
  obtain ⟨_, _, ⟨T244, L244, k244, n244⟩, -, X244, ⟨Lc244, hQ244, l244, y244, z244⟩, st244⟩ := X241.interfaceBack hx (xi := (⟨"java/util/List", "size", "()I"⟩ : MethodName)) (y := (⟨"java/util/ArrayList", "size", "()I"⟩ : MethodName)) hown (mvT hZ (hw _ (List.mem_of_getElem? (i := 93) rfl))) (mvT hZ (hw _ (List.mem_of_getElem? (i := 94) rfl))) (mvT hZ (hw _ (List.mem_of_getElem? (i := 95) rfl))) (mvT hZ (hw _ (List.mem_of_getElem? (i := 96) rfl))) (mvT hZ (hw _ (List.mem_of_getElem? (i := 97) rfl))) (mvT hZ (hw _ (List.mem_of_getElem? (i := 98) rfl))) (mvT hZ (hw _ (List.mem_of_getElem? (i := 99) rfl))) (mvT hZ (hw _ (List.mem_of_getElem? (i := 100) rfl))) (by decide) (backOf (W := 1) (rm12 l Z a0 hw [] a (2 : Int32) h241 n0 f245 f246) hZ (hw _ (List.mem_of_getElem? (i := 101) rfl)) (hw _ (List.mem_of_getElem? (i := 2) rfl)) (by decide) (by decide)) q244a q244b q244c (g := (mkF m 49 #[.val (.ref d), .val (.ref a), .unset, .unset, .unset] [(.ref a), (.ref d)])) rfl (by rw [hml]; rfl) (Steps.refl _) (argsL := []) (rest := [(.ref d)]) (lenOf pd_7 rfl) rfl (by show 2 * 0 + _ ≤ _; exact Nat.le_of_eq rfl) (hb hby d11_49) (fun _ _ => ⟨rfl, e241, (by decide : 3 + 0 ≤ _), (by decide : 6 + 0 ≤ _)⟩)
  dsimp only [Pt.U, Pt.locs, Pt.cells, Pt.slots] at X244 l244 y244 z244 st244 hQ244
  obtain rfl : k244 = 3 := y244
  obtain rfl : n244 = 6 := z244
  obtain ⟨rfl, N244q, e244⟩ := hQ244
  have N244 : Fr n0 L244 := by rw [l244]; exact Fr.app N241 N244q
  have G248 : Go p e below A0 (T244.setTop (mkF m 54 #[.val (.ref d), .val (.ref a), .unset, .unset, .unset] [(.int (2 : Int32)), (.ref d)])) := fun tq kq => G243 tq (st244.trans kq)
  obtain ⟨T249, h249, k249, X249, e249, E249, A249, -, O249, st249⟩ := newRA X244 hx hZ hown (C := "[I") (by decide) (hw _ (List.mem_of_getElem? (i := 102) rfl)) (hw _ (List.mem_of_getElem? (i := 103) rfl)) e244 (g := (mkF m 54 #[.val (.ref d), .val (.ref a), .unset, .unset, .unset] [(.int (2 : Int32)), (.ref d)])) rfl (hb hby d11_54) rfl (by decide) (cap := 2) (by decide) (by decide) (by decide) (by decide) (ad := "[[I") (by decide)
  obtain ⟨b249, g249⟩ : ∃ z, z = h241.size := ⟨_, rfl⟩
  rw [← g249] at A249 st249
  have f250 := (Nat.le_trans (Nat.le_trans f237 E236.1) (Keep.of_wr W241).1)
  have sz_b249 : h0.size ≤ b249 := Nat.le_trans f250 (Nat.le_of_eq g249.symm)
  have g_b249 : n0 ≤ b249 := Nat.le_trans f245 (Nat.le_of_eq g249.symm)
  have lt_d_b249 : d < b249 := Nat.lt_of_lt_of_le (f239.wr W241).lt (Nat.le_of_eq g249.symm)
  have lt_a_b249 : a < b249 := Nat.lt_of_lt_of_le f247.lt (Nat.le_of_eq g249.symm)
  have lt_b_b249 : b < b249 := Nat.lt_of_lt_of_le (((((((A.other W202 (Ne.symm hn_b)).ext E210).other W215 (Ne.symm hn_b)).ext E223).other W228 (Ne.symm hn_b)).ext E236).other W241 (Ne.symm hn_b)).lt (Nat.le_of_eq g249.symm)
  have lt_x_b249 : x < b249 := Nat.lt_of_lt_of_le (((((((Ex.wr W202).ext E210).wr W215).ext E223).wr W228).ext E236).wr W241).lt (Nat.le_of_eq g249.symm)
  have lt_cx_b249 : cx < b249 := Nat.lt_of_lt_of_le (((((((Ax.other W202 (Ne.symm hn_cx)).ext E210).other W215 (Ne.symm hn_cx)).ext E223).other W228 (Ne.symm hn_cx)).ext E236).other W241 (Ne.symm hn_cx)).lt (Nat.le_of_eq g249.symm)
  have lt_y_b249 : y < b249 := Nat.lt_of_lt_of_le (((((((Ey.wr W202).ext E210).wr W215).ext E223).wr W228).ext E236).wr W241).lt (Nat.le_of_eq g249.symm)
  have lt_cy_b249 : cy < b249 := Nat.lt_of_lt_of_le (((((((Ay.other W202 (Ne.symm hn_cy)).ext E210).other W215 (Ne.symm hn_cy)).ext E223).other W228 (Ne.symm hn_cy)).ext E236).other W241 (Ne.symm hn_cy)).lt (Nat.le_of_eq g249.symm)
  have lt_b210_b249 : b210 < b249 := Nat.lt_of_lt_of_le (((((V210.other W215 (Ne.symm (Nat.ne_of_lt lt_d_b210))).ext E223).other W228 (Ne.symm (Nat.ne_of_lt lt_d_b210))).ext E236).other W241 (Ne.symm (Nat.ne_of_lt lt_d_b210))).lt (Nat.le_of_eq g249.symm)
  have lt_b223_b249 : b223 < b249 := Nat.lt_of_lt_of_le (((V223.other W228 (Ne.symm (Nat.ne_of_lt lt_d_b223))).ext E236).other W241 (Ne.symm (Nat.ne_of_lt lt_d_b223))).lt (Nat.le_of_eq g249.symm)
  have lt_b236_b249 : b236 < b249 := Nat.lt_of_lt_of_le (V236.other W241 (Ne.symm (Nat.ne_of_lt lt_d_b236))).lt (Nat.le_of_eq g249.symm)
  have V249 : Arv Z h249 b249 k249 (.array .int) (2 : Int32) [.null, .null] .null := (Arv.new A249 (by decide)).pad (pad_rep [] .null 2)
  have G251 : Go p e below A0 (T249.setTop (mkF m 57 #[.val (.ref d), .val (.ref a), .unset, .unset, .unset] [(.ref b249), (.ref d)])) := fun tq kq => G248 tq (st249 _ kq)
  have f252 := ((f239.wr W241).ext E249)
  have f253 := ((((((((D4_.other W202 (Or.inr (slot_ne (Or.inr (hw _ (List.mem_of_getElem? (i := 111) rfl))) (Or.inl (hw _ (List.mem_of_getElem? (i := 92) rfl))) (by decide) (t := (.array (.array .int))) (t' := .int) (by decide) (by decide)))).ext E210).other W215 (Or.inr (slot_ne (Or.inr (hw _ (List.mem_of_getElem? (i := 111) rfl))) (Or.inr (hw _ (List.mem_of_getElem? (i := 105) rfl))) (by decide) (t := (.array (.array .int))) (t' := (.array (.array .int))) (by decide) (by decide)))).ext E223).other W228 (Or.inr (slot_ne (Or.inr (hw _ (List.mem_of_getElem? (i := 111) rfl))) (Or.inr (hw _ (List.mem_of_getElem? (i := 107) rfl))) (by decide) (t := (.array (.array .int))) (t' := (.array (.array .int))) (by decide) (by decide)))).ext E236).other W241 (Or.inr (slot_ne (Or.inr (hw _ (List.mem_of_getElem? (i := 111) rfl))) (Or.inr (hw _ (List.mem_of_getElem? (i := 109) rfl))) (by decide) (t := (.array (.array .int))) (t' := (.array .int)) (by decide) (by decide)))).ext E249)
  obtain ⟨T254, h254, X254, e254, W254, st254⟩ := putF X249 hx hZ hown (host := "") (Or.inl (hw _ (List.mem_of_getElem? (i := 110) rfl))) Via.refl e249 f253 f252 (Or.inr ⟨(hw _ (List.mem_of_getElem? (i := 111) rfl)), rfl, hnm⟩) (hw _ (List.mem_of_getElem? (i := 85) rfl)) (ty := (.array (.array .int))) (by decide) rfl rfl (g := (mkF m 57 #[.val (.ref d), .val (.ref a), .unset, .unset, .unset] [(.ref b249), (.ref d)])) rfl rfl (hb hby d11_57)
  have N254 := Fr.snoc X254 N244 gd
  have fw254 := f253.same W254
  have G255 : Go p e below A0 (T254.setTop (mkF m 60 #[.val (.ref d), .val (.ref a), .unset, .unset, .unset] [])) := fun tq kq => G251 tq (st254 _ kq)
  have G256 : Go p e below A0 (T254.setTop (mkF m 64 #[.val (.ref d), .val (.ref a), .val (.int (0 : Int32)), .unset, .unset] [(.ref d), (.int (0 : Int32))])) := fun tq kq => G255 tq (by
    refine XS.iconst X254.here hx rfl (hb hby d11_60) ?_
    show Steps p.tables e below (T254.setTop (mkF m 61 #[.val (.ref d), .val (.ref a), .unset, .unset, .unset] [(.int (0 : Int32))])) _
    refine XS.istoreN X254.here hx rfl (hb hby d11_61) rfl (l' := #[.val (.ref d), .val (.ref a), .val (.int (0 : Int32)), .unset, .unset]) rfl ?_
    show Steps p.tables e below (T254.setTop (mkF m 62 #[.val (.ref d), .val (.ref a), .val (.int (0 : Int32)), .unset, .unset] [])) _
    refine XS.iloadN X254.here hx rfl (hb hby d11_62) rfl ?_
    show Steps p.tables e below (T254.setTop (mkF m 63 #[.val (.ref d), .val (.ref a), .val (.int (0 : Int32)), .unset, .unset] [(.int (0 : Int32))])) _
    refine XS.aloadN X254.here hx rfl (hb hby d11_63) rfl rfl ?_
    show Steps p.tables e below (T254.setTop (mkF m 64 #[.val (.ref d), .val (.ref a), .val (.int (0 : Int32)), .unset, .unset] [(.ref d), (.int (0 : Int32))])) _
    exact kq)
  have f257 := ((((((fw215.ext E223).other W228 (Or.inr (slot_ne (Or.inr (hw _ (List.mem_of_getElem? (i := 105) rfl))) (Or.inr (hw _ (List.mem_of_getElem? (i := 107) rfl))) (by decide) (t := (.array (.array .int))) (t' := (.array (.array .int))) (by decide) (by decide)))).ext E236).other W241 (Or.inr (slot_ne (Or.inr (hw _ (List.mem_of_getElem? (i := 105) rfl))) (Or.inr (hw _ (List.mem_of_getElem? (i := 109) rfl))) (by decide) (t := (.array (.array .int))) (t' := (.array .int)) (by decide) (by decide)))).ext E249).other W254 (Or.inr (slot_ne (Or.inr (hw _ (List.mem_of_getElem? (i := 105) rfl))) (Or.inr (hw _ (List.mem_of_getElem? (i := 111) rfl))) (by decide) (t := (.array (.array .int))) (t' := (.array (.array .int))) (by decide) (by decide))))
  obtain ⟨T258, X258, e258, st258⟩ := getF X254 hx hZ hown (host := "") (Or.inl (hw _ (List.mem_of_getElem? (i := 104) rfl))) Via.refl e254 f257 (g := (mkF m 64 #[.val (.ref d), .val (.ref a), .val (.int (0 : Int32)), .unset, .unset] [(.ref d), (.int (0 : Int32))])) rfl rfl (hb hby d11_64)
  have G259 : Go p e below A0 (T258.setTop (mkF m 67 #[.val (.ref d), .val (.ref a), .val (.int (0 : Int32)), .unset, .unset] [(.ref b210), (.int (0 : Int32))])) := fun tq kq => G256 tq (st258 _ kq)
  have f260 := (((((((V210.other W215 (Ne.symm (Nat.ne_of_lt lt_d_b210))).ext E223).other W228 (Ne.symm (Nat.ne_of_lt lt_d_b210))).ext E236).other W241 (Ne.symm (Nat.ne_of_lt lt_d_b210))).ext E249).other W254 (Ne.symm (Nat.ne_of_lt lt_d_b210)))
  obtain ⟨cl261, Ar261, q261, S261, M261, H261, Gf261⟩ := id f260
  have G262 : Go p e below A0 (T258.setTop (mkF m 73 #[.val (.ref d), .val (.ref a), .val (.int (0 : Int32)), .unset, .unset] [(.int (0 : Int32)), (.ref a)])) := fun tq kq => G259 tq (by
    refine X258.arraylength hx (by rw [e258]; exact Ar261.1) (State.isArrayOf_alike hZ.alike Ar261.2.1) (g := (mkF m 67 #[.val (.ref d), .val (.ref a), .val (.int (0 : Int32)), .unset, .unset] [(.ref b210), (.int (0 : Int32))])) rfl rfl (hb hby d11_67) _ ?_
    rw [len_of S261 M261]
    show Steps p.tables e below (T258.setTop (mkF m 68 #[.val (.ref d), .val (.ref a), .val (.int (0 : Int32)), .unset, .unset] [(.int (2 : Int32)), (.int (0 : Int32))])) _
    refine XS.icmpNo X258.here hx rfl (hb hby d11_68) rfl (by decide) ?_
    show Steps p.tables e below (T258.setTop (mkF m 71 #[.val (.ref d), .val (.ref a), .val (.int (0 : Int32)), .unset, .unset] [])) _
    refine XS.aloadN X258.here hx rfl (hb hby d11_71) rfl rfl ?_
    show Steps p.tables e below (T258.setTop (mkF m 72 #[.val (.ref d), .val (.ref a), .val (.int (0 : Int32)), .unset, .unset] [(.ref a)])) _
    refine XS.iloadN X258.here hx rfl (hb hby d11_72) rfl ?_
    show Steps p.tables e below (T258.setTop (mkF m 73 #[.val (.ref d), .val (.ref a), .val (.int (0 : Int32)), .unset, .unset] [(.int (0 : Int32)), (.ref a)])) _
    exact kq)
  have f264 := ((f247.ext E249).wr W254)
  have f265 := (((((((((F1.other W202 (Or.inl (Ne.symm hn_a))).ext E210).other W215 (Or.inl (Ne.symm hn_a))).ext E223).other W228 (Or.inl (Ne.symm hn_a))).ext E236).other W241 (Or.inl (Ne.symm hn_a))).ext E249).other W254 (Or.inl (Ne.symm hn_a)))
  have f266 := ((f246.ext E249).other W254 (Or.inl (Ne.symm hn_a)))
  have f267 := (((((((((A.other W202 (Ne.symm hn_b)).ext E210).other W215 (Ne.symm hn_b)).ext E223).other W228 (Ne.symm hn_b)).ext E236).other W241 (Ne.symm hn_b)).ext E249).other W254 (Ne.symm hn_b))
  have f268 := (Nat.le_trans (Nat.le_trans f245 E249.1) (Keep.of_wr W254).1)
  obtain ⟨cq263, kq263, q263a, q263b, q263c⟩ := isOf hZ e258 f264
  obtain ⟨_, _, ⟨T263, L263, k263, n263⟩, -, X263, ⟨Lc263, hQ263, l263, y263, z263⟩, st263⟩ := X258.interfaceBack hx (xi := (⟨"java/util/List", "get", "(I)Ljava/lang/Object;"⟩ : MethodName)) (y := (⟨"java/util/ArrayList", "get", "(I)Ljava/lang/Object;"⟩ : MethodName)) hown (mvT hZ (hw _ (List.mem_of_getElem? (i := 112) rfl))) (mvT hZ (hw _ (List.mem_of_getElem? (i := 113) rfl))) (mvT hZ (hw _ (List.mem_of_getElem? (i := 114) rfl))) (mvT hZ (hw _ (List.mem_of_getElem? (i := 115) rfl))) (mvT hZ (hw _ (List.mem_of_getElem? (i := 116) rfl))) (mvT hZ (hw _ (List.mem_of_getElem? (i := 117) rfl))) (mvT hZ (hw _ (List.mem_of_getElem? (i := 118) rfl))) (mvT hZ (hw _ (List.mem_of_getElem? (i := 100) rfl))) (by decide) (backOf (W := 0) (rmGT0 l Z a0 hw [] a b x y kb h254 n0 f268 f264 f265 f266 f267) hZ (hw _ (List.mem_of_getElem? (i := 119) rfl)) (hw _ (List.mem_of_getElem? (i := 2) rfl)) (by decide) (by decide)) q263a q263b q263c (g := (mkF m 73 #[.val (.ref d), .val (.ref a), .val (.int (0 : Int32)), .unset, .unset] [(.int (0 : Int32)), (.ref a)])) rfl (by rw [hml]; rfl) (Steps.refl _) (argsL := [(.int (0 : Int32))]) (rest := []) (lenOf pd_6 rfl) rfl (by show 2 * 0 + _ ≤ _; exact Nat.le_of_eq rfl) (hb hby d11_73) (fun _ _ => ⟨rfl, e258, (by decide : 4 + 0 ≤ _), (by decide : 8 + 0 ≤ _)⟩)
  dsimp only [Pt.U, Pt.locs, Pt.cells, Pt.slots] at X263 l263 y263 z263 st263 hQ263
  obtain rfl : k263 = 4 := y263
  obtain rfl : n263 = 8 := z263
  obtain ⟨rfl, N263q, e263⟩ := hQ263
  have N263 : Fr n0 L263 := by rw [l263]; exact Fr.app N254 N263q
  have G269 : Go p e below A0 (T263.setTop (mkF m 78 #[.val (.ref d), .val (.ref a), .val (.int (0 : Int32)), .unset, .unset] [(.ref x)])) := fun tq kq => G262 tq (st263.trans kq)
  have f270 := (((((((((Ex.wr W202).ext E210).wr W215).ext E223).wr W228).ext E236).wr W241).ext E249).wr W254)
  obtain ⟨T271, X271, e271, st271⟩ := castY X263 hx hZ hown (hw _ (List.mem_of_getElem? (i := 133) rfl)) e263 (Ins.self f270) (g := (mkF m 78 #[.val (.ref d), .val (.ref a), .val (.int (0 : Int32)), .unset, .unset] [(.ref x)])) rfl rfl (hb hby d11_78)
  have G272 : Go p e below A0 (T271.setTop (mkF m 81 #[.val (.ref d), .val (.ref a), .val (.int (0 : Int32)), .unset, .unset] [(.ref x)])) := fun tq kq => G269 tq (st271 _ kq)
  have f274 := (((((((((Fx.other W202 (Or.inl (Ne.symm hn_x))).ext E210).other W215 (Or.inl (Ne.symm hn_x))).ext E223).other W228 (Or.inl (Ne.symm hn_x))).ext E236).other W241 (Or.inl (Ne.symm hn_x))).ext E249).other W254 (Or.inl (Ne.symm hn_x)))
  have f275 := (((((((((Ax.other W202 (Ne.symm hn_cx)).ext E210).other W215 (Ne.symm hn_cx)).ext E223).other W228 (Ne.symm hn_cx)).ext E236).other W241 (Ne.symm hn_cx)).ext E249).other W254 (Ne.symm hn_cx))
  obtain ⟨cq273, kq273, q273a, q273b, q273c⟩ := isOf hZ e271 f270
  obtain ⟨_, _, ⟨T273, L273, k273, n273⟩, -, X273, ⟨Lc273, hQ273, l273, y273, z273⟩, st273⟩ := X271.virtualBack hx (y := (⟨"com/example/ludarc/ludarc/engine/Variable", "size", "()I"⟩ : MethodName)) (z := (⟨"com/example/ludarc/ludarc/engine/Variable", "size", "()I"⟩ : MethodName)) hown (mvT hZ (hw _ (List.mem_of_getElem? (i := 135) rfl))) (mvT hZ (hw _ (List.mem_of_getElem? (i := 136) rfl))) (notFace_of_selects (args := #[]) (mvT hZ (hw _ (List.mem_of_getElem? (i := 138) rfl)))) (mvT hZ (hw _ (List.mem_of_getElem? (i := 138) rfl))) (mvT hZ (hw _ (List.mem_of_getElem? (i := 137) rfl))) (by decide) (backOf (W := 0) (rm17 l Z a0 hw [] x cx (4 : Int32) kx vsx h254 n0 f268 f274 f275) hZ (hw _ (List.mem_of_getElem? (i := 139) rfl)) (hw _ (List.mem_of_getElem? (i := 28) rfl)) (by decide) (by decide)) q273a q273c (g := (mkF m 81 #[.val (.ref d), .val (.ref a), .val (.int (0 : Int32)), .unset, .unset] [(.ref x)])) rfl (by rw [hml]; rfl) (Steps.refl _) (argsL := []) (rest := []) (lenOf pd_7 rfl) rfl (by show 2 * 0 + _ ≤ _; exact Nat.le_of_eq rfl) (hb hby d11_81) (fun _ _ => ⟨rfl, e271, (by decide : 4 + 0 ≤ _), (by decide : 8 + 0 ≤ _)⟩)
  dsimp only [Pt.U, Pt.locs, Pt.cells, Pt.slots] at X273 l273 y273 z273 st273 hQ273
  obtain rfl : k273 = 4 := y273
  obtain rfl : n273 = 8 := z273
  obtain ⟨rfl, N273q, e273⟩ := hQ273
  have N273 : Fr n0 L273 := by rw [l273]; exact Fr.app N263 N273q
  have G276 : Go p e below A0 (T273.setTop (mkF m 84 #[.val (.ref d), .val (.ref a), .val (.int (0 : Int32)), .unset, .unset] [(.int (4 : Int32))])) := fun tq kq => G272 tq (st273.trans kq)
  have G277 : Go p e below A0 (T273.setTop (mkF m 86 #[.val (.ref d), .val (.ref a), .val (.int (0 : Int32)), .val (.int (4 : Int32)), .unset] [(.ref d)])) := fun tq kq => G276 tq (by
    refine XS.istoreN X273.here hx rfl (hb hby d11_84) rfl (l' := #[.val (.ref d), .val (.ref a), .val (.int (0 : Int32)), .val (.int (4 : Int32)), .unset]) rfl ?_
    show Steps p.tables e below (T273.setTop (mkF m 85 #[.val (.ref d), .val (.ref a), .val (.int (0 : Int32)), .val (.int (4 : Int32)), .unset] [])) _
    refine XS.aloadN X273.here hx rfl (hb hby d11_85) rfl rfl ?_
    show Steps p.tables e below (T273.setTop (mkF m 86 #[.val (.ref d), .val (.ref a), .val (.int (0 : Int32)), .val (.int (4 : Int32)), .unset] [(.ref d)])) _
    exact kq)
  obtain ⟨T278, X278, e278, st278⟩ := getF X273 hx hZ hown (host := "") (Or.inl (hw _ (List.mem_of_getElem? (i := 104) rfl))) Via.refl e273 f257 (g := (mkF m 86 #[.val (.ref d), .val (.ref a), .val (.int (0 : Int32)), .val (.int (4 : Int32)), .unset] [(.ref d)])) rfl rfl (hb hby d11_86)
  have G279 : Go p e below A0 (T278.setTop (mkF m 89 #[.val (.ref d), .val (.ref a), .val (.int (0 : Int32)), .val (.int (4 : Int32)), .unset] [(.ref b210)])) := fun tq kq => G277 tq (st278 _ kq)
  have G280 : Go p e below A0 (T278.setTop (mkF m 91 #[.val (.ref d), .val (.ref a), .val (.int (0 : Int32)), .val (.int (4 : Int32)), .unset] [(.int (4 : Int32)), (.int (0 : Int32)), (.ref b210)])) := fun tq kq => G279 tq (by
    refine XS.iloadN X278.here hx rfl (hb hby d11_89) rfl ?_
    show Steps p.tables e below (T278.setTop (mkF m 90 #[.val (.ref d), .val (.ref a), .val (.int (0 : Int32)), .val (.int (4 : Int32)), .unset] [(.int (0 : Int32)), (.ref b210)])) _
    refine XS.iloadN X278.here hx rfl (hb hby d11_90) rfl ?_
    show Steps p.tables e below (T278.setTop (mkF m 91 #[.val (.ref d), .val (.ref a), .val (.int (0 : Int32)), .val (.int (4 : Int32)), .unset] [(.int (4 : Int32)), (.int (0 : Int32)), (.ref b210)])) _
    exact kq)
  obtain ⟨T281, h281, k281, X281, e281, E281, A281, Ex281, st281⟩ := newPE X278 hx hZ (hw _ (List.mem_of_getElem? (i := 37) rfl)) e278 (g := (mkF m 91 #[.val (.ref d), .val (.ref a), .val (.int (0 : Int32)), .val (.int (4 : Int32)), .unset] [(.int (4 : Int32)), (.int (0 : Int32)), (.ref b210)])) rfl (hb hby d11_91) rfl (by decide) (cap := 4) (by decide) (by decide) (by decide) (by decide) (ad := "[I") (by decide)
  obtain ⟨b281, g281⟩ : ∃ z, z = h254.size := ⟨_, rfl⟩
  rw [← g281] at A281 st281 Ex281
  have f282 := (Nat.le_trans (Nat.le_trans f250 E249.1) (Keep.of_wr W254).1)
  have sz_b281 : h0.size ≤ b281 := Nat.le_trans f282 (Nat.le_of_eq g281.symm)
  have g_b281 : n0 ≤ b281 := Nat.le_trans f268 (Nat.le_of_eq g281.symm)
  have lt_d_b281 : d < b281 := Nat.lt_of_lt_of_le (f252.wr W254).lt (Nat.le_of_eq g281.symm)
  have lt_a_b281 : a < b281 := Nat.lt_of_lt_of_le f264.lt (Nat.le_of_eq g281.symm)
  have lt_b_b281 : b < b281 := Nat.lt_of_lt_of_le f267.lt (Nat.le_of_eq g281.symm)
  have lt_x_b281 : x < b281 := Nat.lt_of_lt_of_le f270.lt (Nat.le_of_eq g281.symm)
  have lt_cx_b281 : cx < b281 := Nat.lt_of_lt_of_le f275.lt (Nat.le_of_eq g281.symm)
  have lt_y_b281 : y < b281 := Nat.lt_of_lt_of_le (((((((((Ey.wr W202).ext E210).wr W215).ext E223).wr W228).ext E236).wr W241).ext E249).wr W254).lt (Nat.le_of_eq g281.symm)
  have lt_cy_b281 : cy < b281 := Nat.lt_of_lt_of_le (((((((((Ay.other W202 (Ne.symm hn_cy)).ext E210).other W215 (Ne.symm hn_cy)).ext E223).other W228 (Ne.symm hn_cy)).ext E236).other W241 (Ne.symm hn_cy)).ext E249).other W254 (Ne.symm hn_cy)).lt (Nat.le_of_eq g281.symm)
  have lt_b210_b281 : b210 < b281 := Nat.lt_of_lt_of_le f260.lt (Nat.le_of_eq g281.symm)
  have lt_b223_b281 : b223 < b281 := Nat.lt_of_lt_of_le (((((V223.other W228 (Ne.symm (Nat.ne_of_lt lt_d_b223))).ext E236).other W241 (Ne.symm (Nat.ne_of_lt lt_d_b223))).ext E249).other W254 (Ne.symm (Nat.ne_of_lt lt_d_b223))).lt (Nat.le_of_eq g281.symm)
  have lt_b236_b281 : b236 < b281 := Nat.lt_of_lt_of_le (((V236.other W241 (Ne.symm (Nat.ne_of_lt lt_d_b236))).ext E249).other W254 (Ne.symm (Nat.ne_of_lt lt_d_b236))).lt (Nat.le_of_eq g281.symm)
  have lt_b249_b281 : b249 < b281 := Nat.lt_of_lt_of_le (V249.other W254 (Ne.symm (Nat.ne_of_lt lt_d_b249))).lt (Nat.le_of_eq g281.symm)
  have V281 : Arv Z h281 b281 k281 .int (4 : Int32) [(.int (0 : Int32)), (.int (0 : Int32)), (.int (0 : Int32)), (.int (0 : Int32))] (.int (0 : Int32)) := (Arv.new A281 (by decide)).pad (pad_rep [] (.int (0 : Int32)) 4)
  have G283 : Go p e below A0 (T281.setTop (mkF m 93 #[.val (.ref d), .val (.ref a), .val (.int (0 : Int32)), .val (.int (4 : Int32)), .unset] [(.ref b281), (.int (0 : Int32)), (.ref b210)])) := fun tq kq => G280 tq (st281 _ kq)
  have f284 := (f260.ext E281)
  obtain ⟨cl285, Ar285, q285, S285, M285, H285, Gf285⟩ := id f284
  have hi286 : ¬ ((0 : Int32) < 0 ∨ cl285.slots.size ≤ ((0 : Int32)).toNatClampNeg) := (inb_of S285 ⟨by decide, by decide⟩)
  obtain ⟨T287, h287, X287, e287, W287, st287⟩ := stR X281 hx hZ e281 Ar285 (j := (0 : Int32)) hi286 rfl (Sto.ofVA Ar285 q285 O210 (Ins.self Ex281)) (g := (mkF m 93 #[.val (.ref d), .val (.ref a), .val (.int (0 : Int32)), .val (.int (4 : Int32)), .unset] [(.ref b281), (.int (0 : Int32)), (.ref b210)])) rfl rfl (hb hby d11_93)
  have N287 := Fr.snoc X287 N273 g_b210
  have V287 := Arv.set Ar285 q285 S285 M285 H285 Gf285 rfl W287 0 rfl (Nat.le_of_ble_eq_true rfl)
  have V287' : Arv Z h287 b210 k210 (.array .int) (2 : Int32) [(.ref b281), .null] .null := by exact V287
  have G288 : Go p e below A0 (T287.setTop (mkF m 94 #[.val (.ref d), .val (.ref a), .val (.int (0 : Int32)), .val (.int (4 : Int32)), .unset] [])) := fun tq kq => G283 tq (st287 _ kq)
  have G289 : Go p e below A0 (T287.setTop (mkF m 95 #[.val (.ref d), .val (.ref a), .val (.int (0 : Int32)), .val (.int (4 : Int32)), .unset] [(.ref d)])) := fun tq kq => G288 tq (by
    refine XS.aloadN X287.here hx rfl (hb hby d11_94) rfl rfl ?_
    show Steps p.tables e below (T287.setTop (mkF m 95 #[.val (.ref d), .val (.ref a), .val (.int (0 : Int32)), .val (.int (4 : Int32)), .unset] [(.ref d)])) _
    exact kq)
  have f290 := ((((((fw228.ext E236).other W241 (Or.inr (slot_ne (Or.inr (hw _ (List.mem_of_getElem? (i := 107) rfl))) (Or.inr (hw _ (List.mem_of_getElem? (i := 109) rfl))) (by decide) (t := (.array (.array .int))) (t' := (.array .int)) (by decide) (by decide)))).ext E249).other W254 (Or.inr (slot_ne (Or.inr (hw _ (List.mem_of_getElem? (i := 107) rfl))) (Or.inr (hw _ (List.mem_of_getElem? (i := 111) rfl))) (by decide) (t := (.array (.array .int))) (t' := (.array (.array .int))) (by decide) (by decide)))).ext E281).other W287 (Or.inl (Nat.ne_of_lt lt_d_b210)))
  obtain ⟨T291, X291, e291, st291⟩ := getF X287 hx hZ hown (host := "") (Or.inl (hw _ (List.mem_of_getElem? (i := 106) rfl))) Via.refl e287 f290 (g := (mkF m 95 #[.val (.ref d), .val (.ref a), .val (.int (0 : Int32)), .val (.int (4 : Int32)), .unset] [(.ref d)])) rfl rfl (hb hby d11_95)
  have G292 : Go p e below A0 (T291.setTop (mkF m 98 #[.val (.ref d), .val (.ref a), .val (.int (0 : Int32)), .val (.int (4 : Int32)), .unset] [(.ref b223)])) := fun tq kq => G289 tq (st291 _ kq)
  have G293 : Go p e below A0 (T291.setTop (mkF m 100 #[.val (.ref d), .val (.ref a), .val (.int (0 : Int32)), .val (.int (4 : Int32)), .unset] [(.int (4 : Int32)), (.int (0 : Int32)), (.ref b223)])) := fun tq kq => G292 tq (by
    refine XS.iloadN X291.here hx rfl (hb hby d11_98) rfl ?_
    show Steps p.tables e below (T291.setTop (mkF m 99 #[.val (.ref d), .val (.ref a), .val (.int (0 : Int32)), .val (.int (4 : Int32)), .unset] [(.int (0 : Int32)), (.ref b223)])) _
    refine XS.iloadN X291.here hx rfl (hb hby d11_99) rfl ?_
    show Steps p.tables e below (T291.setTop (mkF m 100 #[.val (.ref d), .val (.ref a), .val (.int (0 : Int32)), .val (.int (4 : Int32)), .unset] [(.int (4 : Int32)), (.int (0 : Int32)), (.ref b223)])) _
    exact kq)
  have f295 := (Nat.le_trans (Nat.le_trans f268 E281.1) (Keep.of_wr W287).1)
  obtain ⟨T294, h294, k294, X294, e294, E294, A294, Ex294, st294⟩ := newPE X291 hx hZ (hw _ (List.mem_of_getElem? (i := 37) rfl)) e291 (g := (mkF m 100 #[.val (.ref d), .val (.ref a), .val (.int (0 : Int32)), .val (.int (4 : Int32)), .unset] [(.int (4 : Int32)), (.int (0 : Int32)), (.ref b223)])) rfl (hb hby d11_100) rfl (by decide) (cap := 4) (by decide) (by decide) (by decide) (by decide) (ad := "[I") (by decide)
  obtain ⟨b294, g294⟩ : ∃ z, z = h287.size := ⟨_, rfl⟩
  rw [← g294] at A294 st294 Ex294
  have f296 := (Nat.le_trans (Nat.le_trans f282 E281.1) (Keep.of_wr W287).1)
  have sz_b294 : h0.size ≤ b294 := Nat.le_trans f296 (Nat.le_of_eq g294.symm)
  have g_b294 : n0 ≤ b294 := Nat.le_trans f295 (Nat.le_of_eq g294.symm)
  have lt_d_b294 : d < b294 := Nat.lt_of_lt_of_le (((f252.wr W254).ext E281).wr W287).lt (Nat.le_of_eq g294.symm)
  have lt_a_b294 : a < b294 := Nat.lt_of_lt_of_le ((f264.ext E281).wr W287).lt (Nat.le_of_eq g294.symm)
  have lt_b_b294 : b < b294 := Nat.lt_of_lt_of_le ((f267.ext E281).other W287 (Nat.ne_of_lt lt_b_b210)).lt (Nat.le_of_eq g294.symm)
  have lt_x_b294 : x < b294 := Nat.lt_of_lt_of_le ((f270.ext E281).wr W287).lt (Nat.le_of_eq g294.symm)
  have lt_cx_b294 : cx < b294 := Nat.lt_of_lt_of_le ((f275.ext E281).other W287 (Nat.ne_of_lt lt_cx_b210)).lt (Nat.le_of_eq g294.symm)
  have lt_y_b294 : y < b294 := Nat.lt_of_lt_of_le (((((((((((Ey.wr W202).ext E210).wr W215).ext E223).wr W228).ext E236).wr W241).ext E249).wr W254).ext E281).wr W287).lt (Nat.le_of_eq g294.symm)
  have lt_cy_b294 : cy < b294 := Nat.lt_of_lt_of_le (((((((((((Ay.other W202 (Ne.symm hn_cy)).ext E210).other W215 (Ne.symm hn_cy)).ext E223).other W228 (Ne.symm hn_cy)).ext E236).other W241 (Ne.symm hn_cy)).ext E249).other W254 (Ne.symm hn_cy)).ext E281).other W287 (Nat.ne_of_lt lt_cy_b210)).lt (Nat.le_of_eq g294.symm)
  have lt_b210_b294 : b210 < b294 := Nat.lt_of_lt_of_le V287'.lt (Nat.le_of_eq g294.symm)
  have lt_b223_b294 : b223 < b294 := Nat.lt_of_lt_of_le (((((((V223.other W228 (Ne.symm (Nat.ne_of_lt lt_d_b223))).ext E236).other W241 (Ne.symm (Nat.ne_of_lt lt_d_b223))).ext E249).other W254 (Ne.symm (Nat.ne_of_lt lt_d_b223))).ext E281).other W287 (Ne.symm (Nat.ne_of_lt lt_b210_b223))).lt (Nat.le_of_eq g294.symm)
  have lt_b236_b294 : b236 < b294 := Nat.lt_of_lt_of_le (((((V236.other W241 (Ne.symm (Nat.ne_of_lt lt_d_b236))).ext E249).other W254 (Ne.symm (Nat.ne_of_lt lt_d_b236))).ext E281).other W287 (Ne.symm (Nat.ne_of_lt lt_b210_b236))).lt (Nat.le_of_eq g294.symm)
  have lt_b249_b294 : b249 < b294 := Nat.lt_of_lt_of_le (((V249.other W254 (Ne.symm (Nat.ne_of_lt lt_d_b249))).ext E281).other W287 (Ne.symm (Nat.ne_of_lt lt_b210_b249))).lt (Nat.le_of_eq g294.symm)
  have lt_b281_b294 : b281 < b294 := Nat.lt_of_lt_of_le (V281.other W287 (Ne.symm (Nat.ne_of_lt lt_b210_b281))).lt (Nat.le_of_eq g294.symm)
  have V294 : Arv Z h294 b294 k294 .int (4 : Int32) [(.int (0 : Int32)), (.int (0 : Int32)), (.int (0 : Int32)), (.int (0 : Int32))] (.int (0 : Int32)) := (Arv.new A294 (by decide)).pad (pad_rep [] (.int (0 : Int32)) 4)
  have G297 : Go p e below A0 (T294.setTop (mkF m 102 #[.val (.ref d), .val (.ref a), .val (.int (0 : Int32)), .val (.int (4 : Int32)), .unset] [(.ref b294), (.int (0 : Int32)), (.ref b223)])) := fun tq kq => G293 tq (st294 _ kq)
  have f298 := ((((((((V223.other W228 (Ne.symm (Nat.ne_of_lt lt_d_b223))).ext E236).other W241 (Ne.symm (Nat.ne_of_lt lt_d_b223))).ext E249).other W254 (Ne.symm (Nat.ne_of_lt lt_d_b223))).ext E281).other W287 (Ne.symm (Nat.ne_of_lt lt_b210_b223))).ext E294)
  obtain ⟨cl299, Ar299, q299, S299, M299, H299, Gf299⟩ := id f298
  have hi300 : ¬ ((0 : Int32) < 0 ∨ cl299.slots.size ≤ ((0 : Int32)).toNatClampNeg) := (inb_of S299 ⟨by decide, by decide⟩)
  obtain ⟨T301, h301, X301, e301, W301, st301⟩ := stR X294 hx hZ e294 Ar299 (j := (0 : Int32)) hi300 rfl (Sto.ofVA Ar299 q299 O223 (Ins.self Ex294)) (g := (mkF m 102 #[.val (.ref d), .val (.ref a), .val (.int (0 : Int32)), .val (.int (4 : Int32)), .unset] [(.ref b294), (.int (0 : Int32)), (.ref b223)])) rfl rfl (hb hby d11_102)
  have N301 := Fr.snoc X301 N287 g_b223
  have V301 := Arv.set Ar299 q299 S299 M299 H299 Gf299 rfl W301 0 rfl (Nat.le_of_ble_eq_true rfl)
  have V301' : Arv Z h301 b223 k223 (.array .int) (2 : Int32) [(.ref b294), .null] .null := by exact V301
  have G302 : Go p e below A0 (T301.setTop (mkF m 103 #[.val (.ref d), .val (.ref a), .val (.int (0 : Int32)), .val (.int (4 : Int32)), .unset] [])) := fun tq kq => G297 tq (st301 _ kq)
  have G303 : Go p e below A0 (T301.setTop (mkF m 113 #[.val (.ref d), .val (.ref a), .val (.int (0 : Int32)), .val (.int (4 : Int32)), .val (.int (0 : Int32))] [(.ref d)])) := fun tq kq => G302 tq (by
    refine XS.iconst X301.here hx rfl (hb hby d11_103) ?_
    show Steps p.tables e below (T301.setTop (mkF m 104 #[.val (.ref d), .val (.ref a), .val (.int (0 : Int32)), .val (.int (4 : Int32)), .unset] [(.int (0 : Int32))])) _
    refine XS.istore X301.here hx rfl (hb hby d11_104) rfl (l' := #[.val (.ref d), .val (.ref a), .val (.int (0 : Int32)), .val (.int (4 : Int32)), .val (.int (0 : Int32))]) rfl ?_
    show Steps p.tables e below (T301.setTop (mkF m 106 #[.val (.ref d), .val (.ref a), .val (.int (0 : Int32)), .val (.int (4 : Int32)), .val (.int (0 : Int32))] [])) _
    refine XS.iload X301.here hx rfl (hb hby d11_106) rfl ?_
    show Steps p.tables e below (T301.setTop (mkF m 108 #[.val (.ref d), .val (.ref a), .val (.int (0 : Int32)), .val (.int (4 : Int32)), .val (.int (0 : Int32))] [(.int (0 : Int32))])) _
    refine XS.iloadN X301.here hx rfl (hb hby d11_108) rfl ?_
    show Steps p.tables e below (T301.setTop (mkF m 109 #[.val (.ref d), .val (.ref a), .val (.int (0 : Int32)), .val (.int (4 : Int32)), .val (.int (0 : Int32))] [(.int (4 : Int32)), (.int (0 : Int32))])) _
    refine XS.icmpNo X301.here hx rfl (hb hby d11_109) rfl (by decide) ?_
    show Steps p.tables e below (T301.setTop (mkF m 112 #[.val (.ref d), .val (.ref a), .val (.int (0 : Int32)), .val (.int (4 : Int32)), .val (.int (0 : Int32))] [])) _
    refine XS.aloadN X301.here hx rfl (hb hby d11_112) rfl rfl ?_
    show Steps p.tables e below (T301.setTop (mkF m 113 #[.val (.ref d), .val (.ref a), .val (.int (0 : Int32)), .val (.int (4 : Int32)), .val (.int (0 : Int32))] [(.ref d)])) _
    exact kq)
  have f304 := ((((f257.ext E281).other W287 (Or.inl (Nat.ne_of_lt lt_d_b210))).ext E294).other W301 (Or.inl (Nat.ne_of_lt lt_d_b223)))
  obtain ⟨T305, X305, e305, st305⟩ := getF X301 hx hZ hown (host := "") (Or.inl (hw _ (List.mem_of_getElem? (i := 104) rfl))) Via.refl e301 f304 (g := (mkF m 113 #[.val (.ref d), .val (.ref a), .val (.int (0 : Int32)), .val (.int (4 : Int32)), .val (.int (0 : Int32))] [(.ref d)])) rfl rfl (hb hby d11_113)
  have G306 : Go p e below A0 (T305.setTop (mkF m 116 #[.val (.ref d), .val (.ref a), .val (.int (0 : Int32)), .val (.int (4 : Int32)), .val (.int (0 : Int32))] [(.ref b210)])) := fun tq kq => G303 tq (st305 _ kq)
  have G307 : Go p e below A0 (T305.setTop (mkF m 117 #[.val (.ref d), .val (.ref a), .val (.int (0 : Int32)), .val (.int (4 : Int32)), .val (.int (0 : Int32))] [(.int (0 : Int32)), (.ref b210)])) := fun tq kq => G306 tq (by
    refine XS.iloadN X305.here hx rfl (hb hby d11_116) rfl ?_
    show Steps p.tables e below (T305.setTop (mkF m 117 #[.val (.ref d), .val (.ref a), .val (.int (0 : Int32)), .val (.int (4 : Int32)), .val (.int (0 : Int32))] [(.int (0 : Int32)), (.ref b210)])) _
    exact kq)
  have f308 := ((V287'.ext E294).other W301 (Nat.ne_of_lt lt_b210_b223))
  obtain ⟨cl309, Ar309, q309, S309, M309, H309, Gf309⟩ := id f308
  have hi310 : ¬ ((0 : Int32) < 0 ∨ cl309.slots.size ≤ ((0 : Int32)).toNatClampNeg) := (inb_of S309 ⟨by decide, by decide⟩)
  have G311 : Go p e below A0 (T305.setTop (mkF m 122 #[.val (.ref d), .val (.ref a), .val (.int (0 : Int32)), .val (.int (4 : Int32)), .val (.int (0 : Int32))] [(.int (0 : Int32)), (.int (0 : Int32)), (.ref b281)])) := fun tq kq => G307 tq (by
    refine X305.aaload hx (j := (0 : Int32)) (v := (.ref b281)) (by rw [e305]; exact Ar309.1) (State.isArrayOf_alike hZ.alike Ar309.2.1) rfl Ar309.2.2 hi310 (H309.at hi310 rfl) (g := (mkF m 117 #[.val (.ref d), .val (.ref a), .val (.int (0 : Int32)), .val (.int (4 : Int32)), .val (.int (0 : Int32))] [(.int (0 : Int32)), (.ref b210)])) rfl rfl (hb hby d11_117) _ ?_
    show Steps p.tables e below (T305.setTop (mkF m 118 #[.val (.ref d), .val (.ref a), .val (.int (0 : Int32)), .val (.int (4 : Int32)), .val (.int (0 : Int32))] [(.ref b281)])) _
    refine XS.iload X305.here hx rfl (hb hby d11_118) rfl ?_
    show Steps p.tables e below (T305.setTop (mkF m 120 #[.val (.ref d), .val (.ref a), .val (.int (0 : Int32)), .val (.int (4 : Int32)), .val (.int (0 : Int32))] [(.int (0 : Int32)), (.ref b281)])) _
    refine XS.iload X305.here hx rfl (hb hby d11_120) rfl ?_
    show Steps p.tables e below (T305.setTop (mkF m 122 #[.val (.ref d), .val (.ref a), .val (.int (0 : Int32)), .val (.int (4 : Int32)), .val (.int (0 : Int32))] [(.int (0 : Int32)), (.int (0 : Int32)), (.ref b281)])) _
    exact kq)
  have f312 := (((V281.other W287 (Ne.symm (Nat.ne_of_lt lt_b210_b281))).ext E294).other W301 (Ne.symm (Nat.ne_of_lt lt_b223_b281)))
  obtain ⟨cl313, Ar313, q313, S313, M313, H313, Gf313⟩ := id f312
  have hi314 : ¬ ((0 : Int32) < 0 ∨ cl313.slots.size ≤ ((0 : Int32)).toNatClampNeg) := (inb_of S313 ⟨by decide, by decide⟩)
  obtain ⟨T315, h315, X315, e315, W315, st315⟩ := stI X305 hx hZ e305 Ar313 (j := (0 : Int32)) hi314 (g := (mkF m 122 #[.val (.ref d), .val (.ref a), .val (.int (0 : Int32)), .val (.int (4 : Int32)), .val (.int (0 : Int32))] [(.int (0 : Int32)), (.int (0 : Int32)), (.ref b281)])) rfl rfl (hb hby d11_122)
  have N315 := Fr.snoc X315 N301 g_b281
  have V315 := Arv.set Ar313 q313 S313 M313 H313 Gf313 rfl W315 0 rfl (Nat.le_of_ble_eq_true rfl)
  have V315' : Arv Z h315 b281 k281 .int (4 : Int32) [(.int (0 : Int32)), (.int (0 : Int32)), (.int (0 : Int32)), (.int (0 : Int32))] (.int (0 : Int32)) := by exact V315
  have G316 : Go p e below A0 (T315.setTop (mkF m 123 #[.val (.ref d), .val (.ref a), .val (.int (0 : Int32)), .val (.int (4 : Int32)), .val (.int (0 : Int32))] [])) := fun tq kq => G311 tq (st315 _ kq)
  have G317 : Go p e below A0 (T315.setTop (mkF m 124 #[.val (.ref d), .val (.ref a), .val (.int (0 : Int32)), .val (.int (4 : Int32)), .val (.int (0 : Int32))] [(.ref d)])) := fun tq kq => G316 tq (by
    refine XS.aloadN X315.here hx rfl (hb hby d11_123) rfl rfl ?_
    show Steps p.tables e below (T315.setTop (mkF m 124 #[.val (.ref d), .val (.ref a), .val (.int (0 : Int32)), .val (.int (4 : Int32)), .val (.int (0 : Int32))] [(.ref d)])) _
    exact kq)
  have f318 := (((f290.ext E294).other W301 (Or.inl (Nat.ne_of_lt lt_d_b223))).other W315 (Or.inl (Nat.ne_of_lt lt_d_b281)))
  obtain ⟨T319, X319, e319, st319⟩ := getF X315 hx hZ hown (host := "") (Or.inl (hw _ (List.mem_of_getElem? (i := 106) rfl))) Via.refl e315 f318 (g := (mkF m 124 #[.val (.ref d), .val (.ref a), .val (.int (0 : Int32)), .val (.int (4 : Int32)), .val (.int (0 : Int32))] [(.ref d)])) rfl rfl (hb hby d11_124)
  have G320 : Go p e below A0 (T319.setTop (mkF m 127 #[.val (.ref d), .val (.ref a), .val (.int (0 : Int32)), .val (.int (4 : Int32)), .val (.int (0 : Int32))] [(.ref b223)])) := fun tq kq => G317 tq (st319 _ kq)
  have G321 : Go p e below A0 (T319.setTop (mkF m 128 #[.val (.ref d), .val (.ref a), .val (.int (0 : Int32)), .val (.int (4 : Int32)), .val (.int (0 : Int32))] [(.int (0 : Int32)), (.ref b223)])) := fun tq kq => G320 tq (by
    refine XS.iloadN X319.here hx rfl (hb hby d11_127) rfl ?_
    show Steps p.tables e below (T319.setTop (mkF m 128 #[.val (.ref d), .val (.ref a), .val (.int (0 : Int32)), .val (.int (4 : Int32)), .val (.int (0 : Int32))] [(.int (0 : Int32)), (.ref b223)])) _
    exact kq)
  have f322 := (V301'.other W315 (Nat.ne_of_lt lt_b223_b281))
  obtain ⟨cl323, Ar323, q323, S323, M323, H323, Gf323⟩ := id f322
  have hi324 : ¬ ((0 : Int32) < 0 ∨ cl323.slots.size ≤ ((0 : Int32)).toNatClampNeg) := (inb_of S323 ⟨by decide, by decide⟩)
  have G325 : Go p e below A0 (T319.setTop (mkF m 133 #[.val (.ref d), .val (.ref a), .val (.int (0 : Int32)), .val (.int (4 : Int32)), .val (.int (0 : Int32))] [(.int (0 : Int32)), (.int (0 : Int32)), (.ref b294)])) := fun tq kq => G321 tq (by
    refine X319.aaload hx (j := (0 : Int32)) (v := (.ref b294)) (by rw [e319]; exact Ar323.1) (State.isArrayOf_alike hZ.alike Ar323.2.1) rfl Ar323.2.2 hi324 (H323.at hi324 rfl) (g := (mkF m 128 #[.val (.ref d), .val (.ref a), .val (.int (0 : Int32)), .val (.int (4 : Int32)), .val (.int (0 : Int32))] [(.int (0 : Int32)), (.ref b223)])) rfl rfl (hb hby d11_128) _ ?_
    show Steps p.tables e below (T319.setTop (mkF m 129 #[.val (.ref d), .val (.ref a), .val (.int (0 : Int32)), .val (.int (4 : Int32)), .val (.int (0 : Int32))] [(.ref b294)])) _
    refine XS.iload X319.here hx rfl (hb hby d11_129) rfl ?_
    show Steps p.tables e below (T319.setTop (mkF m 131 #[.val (.ref d), .val (.ref a), .val (.int (0 : Int32)), .val (.int (4 : Int32)), .val (.int (0 : Int32))] [(.int (0 : Int32)), (.ref b294)])) _
    refine XS.iload X319.here hx rfl (hb hby d11_131) rfl ?_
    show Steps p.tables e below (T319.setTop (mkF m 133 #[.val (.ref d), .val (.ref a), .val (.int (0 : Int32)), .val (.int (4 : Int32)), .val (.int (0 : Int32))] [(.int (0 : Int32)), (.int (0 : Int32)), (.ref b294)])) _
    exact kq)
  have f326 := ((V294.other W301 (Ne.symm (Nat.ne_of_lt lt_b223_b294))).other W315 (Ne.symm (Nat.ne_of_lt lt_b281_b294)))
  obtain ⟨cl327, Ar327, q327, S327, M327, H327, Gf327⟩ := id f326
  have hi328 : ¬ ((0 : Int32) < 0 ∨ cl327.slots.size ≤ ((0 : Int32)).toNatClampNeg) := (inb_of S327 ⟨by decide, by decide⟩)
  obtain ⟨T329, h329, X329, e329, W329, st329⟩ := stI X319 hx hZ e319 Ar327 (j := (0 : Int32)) hi328 (g := (mkF m 133 #[.val (.ref d), .val (.ref a), .val (.int (0 : Int32)), .val (.int (4 : Int32)), .val (.int (0 : Int32))] [(.int (0 : Int32)), (.int (0 : Int32)), (.ref b294)])) rfl rfl (hb hby d11_133)
  have N329 := Fr.snoc X329 N315 g_b294
  have V329 := Arv.set Ar327 q327 S327 M327 H327 Gf327 rfl W329 0 rfl (Nat.le_of_ble_eq_true rfl)
  have V329' : Arv Z h329 b294 k294 .int (4 : Int32) [(.int (0 : Int32)), (.int (0 : Int32)), (.int (0 : Int32)), (.int (0 : Int32))] (.int (0 : Int32)) := by exact V329
  have G330 : Go p e below A0 (T329.setTop (mkF m 134 #[.val (.ref d), .val (.ref a), .val (.int (0 : Int32)), .val (.int (4 : Int32)), .val (.int (0 : Int32))] [])) := fun tq kq => G325 tq (st329 _ kq)
  have G331 : Go p e below A0 (T329.setTop (mkF m 113 #[.val (.ref d), .val (.ref a), .val (.int (0 : Int32)), .val (.int (4 : Int32)), .val (.int (1 : Int32))] [(.ref d)])) := fun tq kq => G330 tq (by
    refine XS.iinc X329.here hx rfl (hb hby d11_134) rfl (l' := #[.val (.ref d), .val (.ref a), .val (.int (0 : Int32)), .val (.int (4 : Int32)), .val (.int ((0 : Int32) + (1 : Int32)))]) rfl ?_
    show Steps p.tables e below (T329.setTop (mkF m 137 #[.val (.ref d), .val (.ref a), .val (.int (0 : Int32)), .val (.int (4 : Int32)), .val (.int ((0 : Int32) + (1 : Int32)))] [])) _
    rw [show ((0 : Int32) + (1 : Int32)) = (1 : Int32) from (by decide : ((0 : Int32) + (1 : Int32)) = (1 : Int32))]
    show Steps p.tables e below (T329.setTop (mkF m 137 #[.val (.ref d), .val (.ref a), .val (.int (0 : Int32)), .val (.int (4 : Int32)), .val (.int (1 : Int32))] [])) _
    refine XS.goto X329.here hx rfl (pc0 := 137) (pc' := 106) rfl (hb hby d11_137) (by decide) (by decide) ?_
    show Steps p.tables e below (T329.setTop (mkF m 106 #[.val (.ref d), .val (.ref a), .val (.int (0 : Int32)), .val (.int (4 : Int32)), .val (.int (1 : Int32))] [])) _
    refine XS.iload X329.here hx rfl (hb hby d11_106) rfl ?_
    show Steps p.tables e below (T329.setTop (mkF m 108 #[.val (.ref d), .val (.ref a), .val (.int (0 : Int32)), .val (.int (4 : Int32)), .val (.int (1 : Int32))] [(.int (1 : Int32))])) _
    refine XS.iloadN X329.here hx rfl (hb hby d11_108) rfl ?_
    show Steps p.tables e below (T329.setTop (mkF m 109 #[.val (.ref d), .val (.ref a), .val (.int (0 : Int32)), .val (.int (4 : Int32)), .val (.int (1 : Int32))] [(.int (4 : Int32)), (.int (1 : Int32))])) _
    refine XS.icmpNo X329.here hx rfl (hb hby d11_109) rfl (by decide) ?_
    show Steps p.tables e below (T329.setTop (mkF m 112 #[.val (.ref d), .val (.ref a), .val (.int (0 : Int32)), .val (.int (4 : Int32)), .val (.int (1 : Int32))] [])) _
    refine XS.aloadN X329.here hx rfl (hb hby d11_112) rfl rfl ?_
    show Steps p.tables e below (T329.setTop (mkF m 113 #[.val (.ref d), .val (.ref a), .val (.int (0 : Int32)), .val (.int (4 : Int32)), .val (.int (1 : Int32))] [(.ref d)])) _
    exact kq)
  have f332 := ((f304.other W315 (Or.inl (Nat.ne_of_lt lt_d_b281))).other W329 (Or.inl (Nat.ne_of_lt lt_d_b294)))
  obtain ⟨T333, X333, e333, st333⟩ := getF X329 hx hZ hown (host := "") (Or.inl (hw _ (List.mem_of_getElem? (i := 104) rfl))) Via.refl e329 f332 (g := (mkF m 113 #[.val (.ref d), .val (.ref a), .val (.int (0 : Int32)), .val (.int (4 : Int32)), .val (.int (1 : Int32))] [(.ref d)])) rfl rfl (hb hby d11_113)
  have G334 : Go p e below A0 (T333.setTop (mkF m 116 #[.val (.ref d), .val (.ref a), .val (.int (0 : Int32)), .val (.int (4 : Int32)), .val (.int (1 : Int32))] [(.ref b210)])) := fun tq kq => G331 tq (st333 _ kq)
  have G335 : Go p e below A0 (T333.setTop (mkF m 117 #[.val (.ref d), .val (.ref a), .val (.int (0 : Int32)), .val (.int (4 : Int32)), .val (.int (1 : Int32))] [(.int (0 : Int32)), (.ref b210)])) := fun tq kq => G334 tq (by
    refine XS.iloadN X333.here hx rfl (hb hby d11_116) rfl ?_
    show Steps p.tables e below (T333.setTop (mkF m 117 #[.val (.ref d), .val (.ref a), .val (.int (0 : Int32)), .val (.int (4 : Int32)), .val (.int (1 : Int32))] [(.int (0 : Int32)), (.ref b210)])) _
    exact kq)
  have f336 := ((f308.other W315 (Nat.ne_of_lt lt_b210_b281)).other W329 (Nat.ne_of_lt lt_b210_b294))
  obtain ⟨cl337, Ar337, q337, S337, M337, H337, Gf337⟩ := id f336
  have hi338 : ¬ ((0 : Int32) < 0 ∨ cl337.slots.size ≤ ((0 : Int32)).toNatClampNeg) := (inb_of S337 ⟨by decide, by decide⟩)
  have G339 : Go p e below A0 (T333.setTop (mkF m 122 #[.val (.ref d), .val (.ref a), .val (.int (0 : Int32)), .val (.int (4 : Int32)), .val (.int (1 : Int32))] [(.int (1 : Int32)), (.int (1 : Int32)), (.ref b281)])) := fun tq kq => G335 tq (by
    refine X333.aaload hx (j := (0 : Int32)) (v := (.ref b281)) (by rw [e333]; exact Ar337.1) (State.isArrayOf_alike hZ.alike Ar337.2.1) rfl Ar337.2.2 hi338 (H337.at hi338 rfl) (g := (mkF m 117 #[.val (.ref d), .val (.ref a), .val (.int (0 : Int32)), .val (.int (4 : Int32)), .val (.int (1 : Int32))] [(.int (0 : Int32)), (.ref b210)])) rfl rfl (hb hby d11_117) _ ?_
    show Steps p.tables e below (T333.setTop (mkF m 118 #[.val (.ref d), .val (.ref a), .val (.int (0 : Int32)), .val (.int (4 : Int32)), .val (.int (1 : Int32))] [(.ref b281)])) _
    refine XS.iload X333.here hx rfl (hb hby d11_118) rfl ?_
    show Steps p.tables e below (T333.setTop (mkF m 120 #[.val (.ref d), .val (.ref a), .val (.int (0 : Int32)), .val (.int (4 : Int32)), .val (.int (1 : Int32))] [(.int (1 : Int32)), (.ref b281)])) _
    refine XS.iload X333.here hx rfl (hb hby d11_120) rfl ?_
    show Steps p.tables e below (T333.setTop (mkF m 122 #[.val (.ref d), .val (.ref a), .val (.int (0 : Int32)), .val (.int (4 : Int32)), .val (.int (1 : Int32))] [(.int (1 : Int32)), (.int (1 : Int32)), (.ref b281)])) _
    exact kq)
  have f340 := (V315'.other W329 (Nat.ne_of_lt lt_b281_b294))
  obtain ⟨cl341, Ar341, q341, S341, M341, H341, Gf341⟩ := id f340
  have hi342 : ¬ ((1 : Int32) < 0 ∨ cl341.slots.size ≤ ((1 : Int32)).toNatClampNeg) := (inb_of S341 ⟨by decide, by decide⟩)
  obtain ⟨T343, h343, X343, e343, W343, st343⟩ := stI X333 hx hZ e333 Ar341 (j := (1 : Int32)) hi342 (g := (mkF m 122 #[.val (.ref d), .val (.ref a), .val (.int (0 : Int32)), .val (.int (4 : Int32)), .val (.int (1 : Int32))] [(.int (1 : Int32)), (.int (1 : Int32)), (.ref b281)])) rfl rfl (hb hby d11_122)
  have N343 := Fr.snoc X343 N329 g_b281
  have V343 := Arv.set Ar341 q341 S341 M341 H341 Gf341 rfl W343 1 rfl (Nat.le_of_ble_eq_true rfl)
  have V343' : Arv Z h343 b281 k281 .int (4 : Int32) [(.int (0 : Int32)), (.int (1 : Int32)), (.int (0 : Int32)), (.int (0 : Int32))] (.int (0 : Int32)) := by exact V343
  have G344 : Go p e below A0 (T343.setTop (mkF m 123 #[.val (.ref d), .val (.ref a), .val (.int (0 : Int32)), .val (.int (4 : Int32)), .val (.int (1 : Int32))] [])) := fun tq kq => G339 tq (st343 _ kq)
  have G345 : Go p e below A0 (T343.setTop (mkF m 124 #[.val (.ref d), .val (.ref a), .val (.int (0 : Int32)), .val (.int (4 : Int32)), .val (.int (1 : Int32))] [(.ref d)])) := fun tq kq => G344 tq (by
    refine XS.aloadN X343.here hx rfl (hb hby d11_123) rfl rfl ?_
    show Steps p.tables e below (T343.setTop (mkF m 124 #[.val (.ref d), .val (.ref a), .val (.int (0 : Int32)), .val (.int (4 : Int32)), .val (.int (1 : Int32))] [(.ref d)])) _
    exact kq)
  have f346 := ((f318.other W329 (Or.inl (Nat.ne_of_lt lt_d_b294))).other W343 (Or.inl (Nat.ne_of_lt lt_d_b281)))
  obtain ⟨T347, X347, e347, st347⟩ := getF X343 hx hZ hown (host := "") (Or.inl (hw _ (List.mem_of_getElem? (i := 106) rfl))) Via.refl e343 f346 (g := (mkF m 124 #[.val (.ref d), .val (.ref a), .val (.int (0 : Int32)), .val (.int (4 : Int32)), .val (.int (1 : Int32))] [(.ref d)])) rfl rfl (hb hby d11_124)
  have G348 : Go p e below A0 (T347.setTop (mkF m 127 #[.val (.ref d), .val (.ref a), .val (.int (0 : Int32)), .val (.int (4 : Int32)), .val (.int (1 : Int32))] [(.ref b223)])) := fun tq kq => G345 tq (st347 _ kq)
  have G349 : Go p e below A0 (T347.setTop (mkF m 128 #[.val (.ref d), .val (.ref a), .val (.int (0 : Int32)), .val (.int (4 : Int32)), .val (.int (1 : Int32))] [(.int (0 : Int32)), (.ref b223)])) := fun tq kq => G348 tq (by
    refine XS.iloadN X347.here hx rfl (hb hby d11_127) rfl ?_
    show Steps p.tables e below (T347.setTop (mkF m 128 #[.val (.ref d), .val (.ref a), .val (.int (0 : Int32)), .val (.int (4 : Int32)), .val (.int (1 : Int32))] [(.int (0 : Int32)), (.ref b223)])) _
    exact kq)
  have f350 := ((f322.other W329 (Nat.ne_of_lt lt_b223_b294)).other W343 (Nat.ne_of_lt lt_b223_b281))
  obtain ⟨cl351, Ar351, q351, S351, M351, H351, Gf351⟩ := id f350
  have hi352 : ¬ ((0 : Int32) < 0 ∨ cl351.slots.size ≤ ((0 : Int32)).toNatClampNeg) := (inb_of S351 ⟨by decide, by decide⟩)
  have G353 : Go p e below A0 (T347.setTop (mkF m 133 #[.val (.ref d), .val (.ref a), .val (.int (0 : Int32)), .val (.int (4 : Int32)), .val (.int (1 : Int32))] [(.int (1 : Int32)), (.int (1 : Int32)), (.ref b294)])) := fun tq kq => G349 tq (by
    refine X347.aaload hx (j := (0 : Int32)) (v := (.ref b294)) (by rw [e347]; exact Ar351.1) (State.isArrayOf_alike hZ.alike Ar351.2.1) rfl Ar351.2.2 hi352 (H351.at hi352 rfl) (g := (mkF m 128 #[.val (.ref d), .val (.ref a), .val (.int (0 : Int32)), .val (.int (4 : Int32)), .val (.int (1 : Int32))] [(.int (0 : Int32)), (.ref b223)])) rfl rfl (hb hby d11_128) _ ?_
    show Steps p.tables e below (T347.setTop (mkF m 129 #[.val (.ref d), .val (.ref a), .val (.int (0 : Int32)), .val (.int (4 : Int32)), .val (.int (1 : Int32))] [(.ref b294)])) _
    refine XS.iload X347.here hx rfl (hb hby d11_129) rfl ?_
    show Steps p.tables e below (T347.setTop (mkF m 131 #[.val (.ref d), .val (.ref a), .val (.int (0 : Int32)), .val (.int (4 : Int32)), .val (.int (1 : Int32))] [(.int (1 : Int32)), (.ref b294)])) _
    refine XS.iload X347.here hx rfl (hb hby d11_131) rfl ?_
    show Steps p.tables e below (T347.setTop (mkF m 133 #[.val (.ref d), .val (.ref a), .val (.int (0 : Int32)), .val (.int (4 : Int32)), .val (.int (1 : Int32))] [(.int (1 : Int32)), (.int (1 : Int32)), (.ref b294)])) _
    exact kq)
  have f354 := (V329'.other W343 (Ne.symm (Nat.ne_of_lt lt_b281_b294)))
  obtain ⟨cl355, Ar355, q355, S355, M355, H355, Gf355⟩ := id f354
  have hi356 : ¬ ((1 : Int32) < 0 ∨ cl355.slots.size ≤ ((1 : Int32)).toNatClampNeg) := (inb_of S355 ⟨by decide, by decide⟩)
  obtain ⟨T357, h357, X357, e357, W357, st357⟩ := stI X347 hx hZ e347 Ar355 (j := (1 : Int32)) hi356 (g := (mkF m 133 #[.val (.ref d), .val (.ref a), .val (.int (0 : Int32)), .val (.int (4 : Int32)), .val (.int (1 : Int32))] [(.int (1 : Int32)), (.int (1 : Int32)), (.ref b294)])) rfl rfl (hb hby d11_133)
  have N357 := Fr.snoc X357 N343 g_b294
  have V357 := Arv.set Ar355 q355 S355 M355 H355 Gf355 rfl W357 1 rfl (Nat.le_of_ble_eq_true rfl)
  have V357' : Arv Z h357 b294 k294 .int (4 : Int32) [(.int (0 : Int32)), (.int (1 : Int32)), (.int (0 : Int32)), (.int (0 : Int32))] (.int (0 : Int32)) := by exact V357
  have G358 : Go p e below A0 (T357.setTop (mkF m 134 #[.val (.ref d), .val (.ref a), .val (.int (0 : Int32)), .val (.int (4 : Int32)), .val (.int (1 : Int32))] [])) := fun tq kq => G353 tq (st357 _ kq)
  have G359 : Go p e below A0 (T357.setTop (mkF m 113 #[.val (.ref d), .val (.ref a), .val (.int (0 : Int32)), .val (.int (4 : Int32)), .val (.int (2 : Int32))] [(.ref d)])) := fun tq kq => G358 tq (by
    refine XS.iinc X357.here hx rfl (hb hby d11_134) rfl (l' := #[.val (.ref d), .val (.ref a), .val (.int (0 : Int32)), .val (.int (4 : Int32)), .val (.int ((1 : Int32) + (1 : Int32)))]) rfl ?_
    show Steps p.tables e below (T357.setTop (mkF m 137 #[.val (.ref d), .val (.ref a), .val (.int (0 : Int32)), .val (.int (4 : Int32)), .val (.int ((1 : Int32) + (1 : Int32)))] [])) _
    rw [show ((1 : Int32) + (1 : Int32)) = (2 : Int32) from (by decide : ((1 : Int32) + (1 : Int32)) = (2 : Int32))]
    show Steps p.tables e below (T357.setTop (mkF m 137 #[.val (.ref d), .val (.ref a), .val (.int (0 : Int32)), .val (.int (4 : Int32)), .val (.int (2 : Int32))] [])) _
    refine XS.goto X357.here hx rfl (pc0 := 137) (pc' := 106) rfl (hb hby d11_137) (by decide) (by decide) ?_
    show Steps p.tables e below (T357.setTop (mkF m 106 #[.val (.ref d), .val (.ref a), .val (.int (0 : Int32)), .val (.int (4 : Int32)), .val (.int (2 : Int32))] [])) _
    refine XS.iload X357.here hx rfl (hb hby d11_106) rfl ?_
    show Steps p.tables e below (T357.setTop (mkF m 108 #[.val (.ref d), .val (.ref a), .val (.int (0 : Int32)), .val (.int (4 : Int32)), .val (.int (2 : Int32))] [(.int (2 : Int32))])) _
    refine XS.iloadN X357.here hx rfl (hb hby d11_108) rfl ?_
    show Steps p.tables e below (T357.setTop (mkF m 109 #[.val (.ref d), .val (.ref a), .val (.int (0 : Int32)), .val (.int (4 : Int32)), .val (.int (2 : Int32))] [(.int (4 : Int32)), (.int (2 : Int32))])) _
    refine XS.icmpNo X357.here hx rfl (hb hby d11_109) rfl (by decide) ?_
    show Steps p.tables e below (T357.setTop (mkF m 112 #[.val (.ref d), .val (.ref a), .val (.int (0 : Int32)), .val (.int (4 : Int32)), .val (.int (2 : Int32))] [])) _
    refine XS.aloadN X357.here hx rfl (hb hby d11_112) rfl rfl ?_
    show Steps p.tables e below (T357.setTop (mkF m 113 #[.val (.ref d), .val (.ref a), .val (.int (0 : Int32)), .val (.int (4 : Int32)), .val (.int (2 : Int32))] [(.ref d)])) _
    exact kq)
  have f360 := ((f332.other W343 (Or.inl (Nat.ne_of_lt lt_d_b281))).other W357 (Or.inl (Nat.ne_of_lt lt_d_b294)))
  obtain ⟨T361, X361, e361, st361⟩ := getF X357 hx hZ hown (host := "") (Or.inl (hw _ (List.mem_of_getElem? (i := 104) rfl))) Via.refl e357 f360 (g := (mkF m 113 #[.val (.ref d), .val (.ref a), .val (.int (0 : Int32)), .val (.int (4 : Int32)), .val (.int (2 : Int32))] [(.ref d)])) rfl rfl (hb hby d11_113)
  have G362 : Go p e below A0 (T361.setTop (mkF m 116 #[.val (.ref d), .val (.ref a), .val (.int (0 : Int32)), .val (.int (4 : Int32)), .val (.int (2 : Int32))] [(.ref b210)])) := fun tq kq => G359 tq (st361 _ kq)
  have G363 : Go p e below A0 (T361.setTop (mkF m 117 #[.val (.ref d), .val (.ref a), .val (.int (0 : Int32)), .val (.int (4 : Int32)), .val (.int (2 : Int32))] [(.int (0 : Int32)), (.ref b210)])) := fun tq kq => G362 tq (by
    refine XS.iloadN X361.here hx rfl (hb hby d11_116) rfl ?_
    show Steps p.tables e below (T361.setTop (mkF m 117 #[.val (.ref d), .val (.ref a), .val (.int (0 : Int32)), .val (.int (4 : Int32)), .val (.int (2 : Int32))] [(.int (0 : Int32)), (.ref b210)])) _
    exact kq)
  have f364 := ((f336.other W343 (Nat.ne_of_lt lt_b210_b281)).other W357 (Nat.ne_of_lt lt_b210_b294))
  obtain ⟨cl365, Ar365, q365, S365, M365, H365, Gf365⟩ := id f364
  have hi366 : ¬ ((0 : Int32) < 0 ∨ cl365.slots.size ≤ ((0 : Int32)).toNatClampNeg) := (inb_of S365 ⟨by decide, by decide⟩)
  have G367 : Go p e below A0 (T361.setTop (mkF m 122 #[.val (.ref d), .val (.ref a), .val (.int (0 : Int32)), .val (.int (4 : Int32)), .val (.int (2 : Int32))] [(.int (2 : Int32)), (.int (2 : Int32)), (.ref b281)])) := fun tq kq => G363 tq (by
    refine X361.aaload hx (j := (0 : Int32)) (v := (.ref b281)) (by rw [e361]; exact Ar365.1) (State.isArrayOf_alike hZ.alike Ar365.2.1) rfl Ar365.2.2 hi366 (H365.at hi366 rfl) (g := (mkF m 117 #[.val (.ref d), .val (.ref a), .val (.int (0 : Int32)), .val (.int (4 : Int32)), .val (.int (2 : Int32))] [(.int (0 : Int32)), (.ref b210)])) rfl rfl (hb hby d11_117) _ ?_
    show Steps p.tables e below (T361.setTop (mkF m 118 #[.val (.ref d), .val (.ref a), .val (.int (0 : Int32)), .val (.int (4 : Int32)), .val (.int (2 : Int32))] [(.ref b281)])) _
    refine XS.iload X361.here hx rfl (hb hby d11_118) rfl ?_
    show Steps p.tables e below (T361.setTop (mkF m 120 #[.val (.ref d), .val (.ref a), .val (.int (0 : Int32)), .val (.int (4 : Int32)), .val (.int (2 : Int32))] [(.int (2 : Int32)), (.ref b281)])) _
    refine XS.iload X361.here hx rfl (hb hby d11_120) rfl ?_
    show Steps p.tables e below (T361.setTop (mkF m 122 #[.val (.ref d), .val (.ref a), .val (.int (0 : Int32)), .val (.int (4 : Int32)), .val (.int (2 : Int32))] [(.int (2 : Int32)), (.int (2 : Int32)), (.ref b281)])) _
    exact kq)
  have f368 := (V343'.other W357 (Nat.ne_of_lt lt_b281_b294))
  obtain ⟨cl369, Ar369, q369, S369, M369, H369, Gf369⟩ := id f368
  have hi370 : ¬ ((2 : Int32) < 0 ∨ cl369.slots.size ≤ ((2 : Int32)).toNatClampNeg) := (inb_of S369 ⟨by decide, by decide⟩)
  obtain ⟨T371, h371, X371, e371, W371, st371⟩ := stI X361 hx hZ e361 Ar369 (j := (2 : Int32)) hi370 (g := (mkF m 122 #[.val (.ref d), .val (.ref a), .val (.int (0 : Int32)), .val (.int (4 : Int32)), .val (.int (2 : Int32))] [(.int (2 : Int32)), (.int (2 : Int32)), (.ref b281)])) rfl rfl (hb hby d11_122)
  have N371 := Fr.snoc X371 N357 g_b281
  have V371 := Arv.set Ar369 q369 S369 M369 H369 Gf369 rfl W371 2 rfl (Nat.le_of_ble_eq_true rfl)
  have V371' : Arv Z h371 b281 k281 .int (4 : Int32) [(.int (0 : Int32)), (.int (1 : Int32)), (.int (2 : Int32)), (.int (0 : Int32))] (.int (0 : Int32)) := by exact V371
  have G372 : Go p e below A0 (T371.setTop (mkF m 123 #[.val (.ref d), .val (.ref a), .val (.int (0 : Int32)), .val (.int (4 : Int32)), .val (.int (2 : Int32))] [])) := fun tq kq => G367 tq (st371 _ kq)
  have G373 : Go p e below A0 (T371.setTop (mkF m 124 #[.val (.ref d), .val (.ref a), .val (.int (0 : Int32)), .val (.int (4 : Int32)), .val (.int (2 : Int32))] [(.ref d)])) := fun tq kq => G372 tq (by
    refine XS.aloadN X371.here hx rfl (hb hby d11_123) rfl rfl ?_
    show Steps p.tables e below (T371.setTop (mkF m 124 #[.val (.ref d), .val (.ref a), .val (.int (0 : Int32)), .val (.int (4 : Int32)), .val (.int (2 : Int32))] [(.ref d)])) _
    exact kq)
  have f374 := ((f346.other W357 (Or.inl (Nat.ne_of_lt lt_d_b294))).other W371 (Or.inl (Nat.ne_of_lt lt_d_b281)))
  obtain ⟨T375, X375, e375, st375⟩ := getF X371 hx hZ hown (host := "") (Or.inl (hw _ (List.mem_of_getElem? (i := 106) rfl))) Via.refl e371 f374 (g := (mkF m 124 #[.val (.ref d), .val (.ref a), .val (.int (0 : Int32)), .val (.int (4 : Int32)), .val (.int (2 : Int32))] [(.ref d)])) rfl rfl (hb hby d11_124)
  have G376 : Go p e below A0 (T375.setTop (mkF m 127 #[.val (.ref d), .val (.ref a), .val (.int (0 : Int32)), .val (.int (4 : Int32)), .val (.int (2 : Int32))] [(.ref b223)])) := fun tq kq => G373 tq (st375 _ kq)
  have G377 : Go p e below A0 (T375.setTop (mkF m 128 #[.val (.ref d), .val (.ref a), .val (.int (0 : Int32)), .val (.int (4 : Int32)), .val (.int (2 : Int32))] [(.int (0 : Int32)), (.ref b223)])) := fun tq kq => G376 tq (by
    refine XS.iloadN X375.here hx rfl (hb hby d11_127) rfl ?_
    show Steps p.tables e below (T375.setTop (mkF m 128 #[.val (.ref d), .val (.ref a), .val (.int (0 : Int32)), .val (.int (4 : Int32)), .val (.int (2 : Int32))] [(.int (0 : Int32)), (.ref b223)])) _
    exact kq)
  have f378 := ((f350.other W357 (Nat.ne_of_lt lt_b223_b294)).other W371 (Nat.ne_of_lt lt_b223_b281))
  obtain ⟨cl379, Ar379, q379, S379, M379, H379, Gf379⟩ := id f378
  have hi380 : ¬ ((0 : Int32) < 0 ∨ cl379.slots.size ≤ ((0 : Int32)).toNatClampNeg) := (inb_of S379 ⟨by decide, by decide⟩)
  have G381 : Go p e below A0 (T375.setTop (mkF m 133 #[.val (.ref d), .val (.ref a), .val (.int (0 : Int32)), .val (.int (4 : Int32)), .val (.int (2 : Int32))] [(.int (2 : Int32)), (.int (2 : Int32)), (.ref b294)])) := fun tq kq => G377 tq (by
    refine X375.aaload hx (j := (0 : Int32)) (v := (.ref b294)) (by rw [e375]; exact Ar379.1) (State.isArrayOf_alike hZ.alike Ar379.2.1) rfl Ar379.2.2 hi380 (H379.at hi380 rfl) (g := (mkF m 128 #[.val (.ref d), .val (.ref a), .val (.int (0 : Int32)), .val (.int (4 : Int32)), .val (.int (2 : Int32))] [(.int (0 : Int32)), (.ref b223)])) rfl rfl (hb hby d11_128) _ ?_
    show Steps p.tables e below (T375.setTop (mkF m 129 #[.val (.ref d), .val (.ref a), .val (.int (0 : Int32)), .val (.int (4 : Int32)), .val (.int (2 : Int32))] [(.ref b294)])) _
    refine XS.iload X375.here hx rfl (hb hby d11_129) rfl ?_
    show Steps p.tables e below (T375.setTop (mkF m 131 #[.val (.ref d), .val (.ref a), .val (.int (0 : Int32)), .val (.int (4 : Int32)), .val (.int (2 : Int32))] [(.int (2 : Int32)), (.ref b294)])) _
    refine XS.iload X375.here hx rfl (hb hby d11_131) rfl ?_
    show Steps p.tables e below (T375.setTop (mkF m 133 #[.val (.ref d), .val (.ref a), .val (.int (0 : Int32)), .val (.int (4 : Int32)), .val (.int (2 : Int32))] [(.int (2 : Int32)), (.int (2 : Int32)), (.ref b294)])) _
    exact kq)
  have f382 := (V357'.other W371 (Ne.symm (Nat.ne_of_lt lt_b281_b294)))
  obtain ⟨cl383, Ar383, q383, S383, M383, H383, Gf383⟩ := id f382
  have hi384 : ¬ ((2 : Int32) < 0 ∨ cl383.slots.size ≤ ((2 : Int32)).toNatClampNeg) := (inb_of S383 ⟨by decide, by decide⟩)
  obtain ⟨T385, h385, X385, e385, W385, st385⟩ := stI X375 hx hZ e375 Ar383 (j := (2 : Int32)) hi384 (g := (mkF m 133 #[.val (.ref d), .val (.ref a), .val (.int (0 : Int32)), .val (.int (4 : Int32)), .val (.int (2 : Int32))] [(.int (2 : Int32)), (.int (2 : Int32)), (.ref b294)])) rfl rfl (hb hby d11_133)
  have N385 := Fr.snoc X385 N371 g_b294
  have V385 := Arv.set Ar383 q383 S383 M383 H383 Gf383 rfl W385 2 rfl (Nat.le_of_ble_eq_true rfl)
  have V385' : Arv Z h385 b294 k294 .int (4 : Int32) [(.int (0 : Int32)), (.int (1 : Int32)), (.int (2 : Int32)), (.int (0 : Int32))] (.int (0 : Int32)) := by exact V385
  have G386 : Go p e below A0 (T385.setTop (mkF m 134 #[.val (.ref d), .val (.ref a), .val (.int (0 : Int32)), .val (.int (4 : Int32)), .val (.int (2 : Int32))] [])) := fun tq kq => G381 tq (st385 _ kq)
  have G387 : Go p e below A0 (T385.setTop (mkF m 113 #[.val (.ref d), .val (.ref a), .val (.int (0 : Int32)), .val (.int (4 : Int32)), .val (.int (3 : Int32))] [(.ref d)])) := fun tq kq => G386 tq (by
    refine XS.iinc X385.here hx rfl (hb hby d11_134) rfl (l' := #[.val (.ref d), .val (.ref a), .val (.int (0 : Int32)), .val (.int (4 : Int32)), .val (.int ((2 : Int32) + (1 : Int32)))]) rfl ?_
    show Steps p.tables e below (T385.setTop (mkF m 137 #[.val (.ref d), .val (.ref a), .val (.int (0 : Int32)), .val (.int (4 : Int32)), .val (.int ((2 : Int32) + (1 : Int32)))] [])) _
    rw [show ((2 : Int32) + (1 : Int32)) = (3 : Int32) from (by decide : ((2 : Int32) + (1 : Int32)) = (3 : Int32))]
    show Steps p.tables e below (T385.setTop (mkF m 137 #[.val (.ref d), .val (.ref a), .val (.int (0 : Int32)), .val (.int (4 : Int32)), .val (.int (3 : Int32))] [])) _
    refine XS.goto X385.here hx rfl (pc0 := 137) (pc' := 106) rfl (hb hby d11_137) (by decide) (by decide) ?_
    show Steps p.tables e below (T385.setTop (mkF m 106 #[.val (.ref d), .val (.ref a), .val (.int (0 : Int32)), .val (.int (4 : Int32)), .val (.int (3 : Int32))] [])) _
    refine XS.iload X385.here hx rfl (hb hby d11_106) rfl ?_
    show Steps p.tables e below (T385.setTop (mkF m 108 #[.val (.ref d), .val (.ref a), .val (.int (0 : Int32)), .val (.int (4 : Int32)), .val (.int (3 : Int32))] [(.int (3 : Int32))])) _
    refine XS.iloadN X385.here hx rfl (hb hby d11_108) rfl ?_
    show Steps p.tables e below (T385.setTop (mkF m 109 #[.val (.ref d), .val (.ref a), .val (.int (0 : Int32)), .val (.int (4 : Int32)), .val (.int (3 : Int32))] [(.int (4 : Int32)), (.int (3 : Int32))])) _
    refine XS.icmpNo X385.here hx rfl (hb hby d11_109) rfl (by decide) ?_
    show Steps p.tables e below (T385.setTop (mkF m 112 #[.val (.ref d), .val (.ref a), .val (.int (0 : Int32)), .val (.int (4 : Int32)), .val (.int (3 : Int32))] [])) _
    refine XS.aloadN X385.here hx rfl (hb hby d11_112) rfl rfl ?_
    show Steps p.tables e below (T385.setTop (mkF m 113 #[.val (.ref d), .val (.ref a), .val (.int (0 : Int32)), .val (.int (4 : Int32)), .val (.int (3 : Int32))] [(.ref d)])) _
    exact kq)
  have f388 := ((f360.other W371 (Or.inl (Nat.ne_of_lt lt_d_b281))).other W385 (Or.inl (Nat.ne_of_lt lt_d_b294)))
  obtain ⟨T389, X389, e389, st389⟩ := getF X385 hx hZ hown (host := "") (Or.inl (hw _ (List.mem_of_getElem? (i := 104) rfl))) Via.refl e385 f388 (g := (mkF m 113 #[.val (.ref d), .val (.ref a), .val (.int (0 : Int32)), .val (.int (4 : Int32)), .val (.int (3 : Int32))] [(.ref d)])) rfl rfl (hb hby d11_113)
  have G390 : Go p e below A0 (T389.setTop (mkF m 116 #[.val (.ref d), .val (.ref a), .val (.int (0 : Int32)), .val (.int (4 : Int32)), .val (.int (3 : Int32))] [(.ref b210)])) := fun tq kq => G387 tq (st389 _ kq)
  have G391 : Go p e below A0 (T389.setTop (mkF m 117 #[.val (.ref d), .val (.ref a), .val (.int (0 : Int32)), .val (.int (4 : Int32)), .val (.int (3 : Int32))] [(.int (0 : Int32)), (.ref b210)])) := fun tq kq => G390 tq (by
    refine XS.iloadN X389.here hx rfl (hb hby d11_116) rfl ?_
    show Steps p.tables e below (T389.setTop (mkF m 117 #[.val (.ref d), .val (.ref a), .val (.int (0 : Int32)), .val (.int (4 : Int32)), .val (.int (3 : Int32))] [(.int (0 : Int32)), (.ref b210)])) _
    exact kq)
  have f392 := ((f364.other W371 (Nat.ne_of_lt lt_b210_b281)).other W385 (Nat.ne_of_lt lt_b210_b294))
  obtain ⟨cl393, Ar393, q393, S393, M393, H393, Gf393⟩ := id f392
  have hi394 : ¬ ((0 : Int32) < 0 ∨ cl393.slots.size ≤ ((0 : Int32)).toNatClampNeg) := (inb_of S393 ⟨by decide, by decide⟩)
  have G395 : Go p e below A0 (T389.setTop (mkF m 122 #[.val (.ref d), .val (.ref a), .val (.int (0 : Int32)), .val (.int (4 : Int32)), .val (.int (3 : Int32))] [(.int (3 : Int32)), (.int (3 : Int32)), (.ref b281)])) := fun tq kq => G391 tq (by
    refine X389.aaload hx (j := (0 : Int32)) (v := (.ref b281)) (by rw [e389]; exact Ar393.1) (State.isArrayOf_alike hZ.alike Ar393.2.1) rfl Ar393.2.2 hi394 (H393.at hi394 rfl) (g := (mkF m 117 #[.val (.ref d), .val (.ref a), .val (.int (0 : Int32)), .val (.int (4 : Int32)), .val (.int (3 : Int32))] [(.int (0 : Int32)), (.ref b210)])) rfl rfl (hb hby d11_117) _ ?_
    show Steps p.tables e below (T389.setTop (mkF m 118 #[.val (.ref d), .val (.ref a), .val (.int (0 : Int32)), .val (.int (4 : Int32)), .val (.int (3 : Int32))] [(.ref b281)])) _
    refine XS.iload X389.here hx rfl (hb hby d11_118) rfl ?_
    show Steps p.tables e below (T389.setTop (mkF m 120 #[.val (.ref d), .val (.ref a), .val (.int (0 : Int32)), .val (.int (4 : Int32)), .val (.int (3 : Int32))] [(.int (3 : Int32)), (.ref b281)])) _
    refine XS.iload X389.here hx rfl (hb hby d11_120) rfl ?_
    show Steps p.tables e below (T389.setTop (mkF m 122 #[.val (.ref d), .val (.ref a), .val (.int (0 : Int32)), .val (.int (4 : Int32)), .val (.int (3 : Int32))] [(.int (3 : Int32)), (.int (3 : Int32)), (.ref b281)])) _
    exact kq)
  have f396 := (V371'.other W385 (Nat.ne_of_lt lt_b281_b294))
  obtain ⟨cl397, Ar397, q397, S397, M397, H397, Gf397⟩ := id f396
  have hi398 : ¬ ((3 : Int32) < 0 ∨ cl397.slots.size ≤ ((3 : Int32)).toNatClampNeg) := (inb_of S397 ⟨by decide, by decide⟩)
  obtain ⟨T399, h399, X399, e399, W399, st399⟩ := stI X389 hx hZ e389 Ar397 (j := (3 : Int32)) hi398 (g := (mkF m 122 #[.val (.ref d), .val (.ref a), .val (.int (0 : Int32)), .val (.int (4 : Int32)), .val (.int (3 : Int32))] [(.int (3 : Int32)), (.int (3 : Int32)), (.ref b281)])) rfl rfl (hb hby d11_122)
  have N399 := Fr.snoc X399 N385 g_b281
  have V399 := Arv.set Ar397 q397 S397 M397 H397 Gf397 rfl W399 3 rfl (Nat.le_of_ble_eq_true rfl)
  have V399' : Arv Z h399 b281 k281 .int (4 : Int32) [(.int (0 : Int32)), (.int (1 : Int32)), (.int (2 : Int32)), (.int (3 : Int32))] (.int (0 : Int32)) := by exact V399
  have G400 : Go p e below A0 (T399.setTop (mkF m 123 #[.val (.ref d), .val (.ref a), .val (.int (0 : Int32)), .val (.int (4 : Int32)), .val (.int (3 : Int32))] [])) := fun tq kq => G395 tq (st399 _ kq)
  have G401 : Go p e below A0 (T399.setTop (mkF m 124 #[.val (.ref d), .val (.ref a), .val (.int (0 : Int32)), .val (.int (4 : Int32)), .val (.int (3 : Int32))] [(.ref d)])) := fun tq kq => G400 tq (by
    refine XS.aloadN X399.here hx rfl (hb hby d11_123) rfl rfl ?_
    show Steps p.tables e below (T399.setTop (mkF m 124 #[.val (.ref d), .val (.ref a), .val (.int (0 : Int32)), .val (.int (4 : Int32)), .val (.int (3 : Int32))] [(.ref d)])) _
    exact kq)
  have f402 := ((f374.other W385 (Or.inl (Nat.ne_of_lt lt_d_b294))).other W399 (Or.inl (Nat.ne_of_lt lt_d_b281)))
  obtain ⟨T403, X403, e403, st403⟩ := getF X399 hx hZ hown (host := "") (Or.inl (hw _ (List.mem_of_getElem? (i := 106) rfl))) Via.refl e399 f402 (g := (mkF m 124 #[.val (.ref d), .val (.ref a), .val (.int (0 : Int32)), .val (.int (4 : Int32)), .val (.int (3 : Int32))] [(.ref d)])) rfl rfl (hb hby d11_124)
  have G404 : Go p e below A0 (T403.setTop (mkF m 127 #[.val (.ref d), .val (.ref a), .val (.int (0 : Int32)), .val (.int (4 : Int32)), .val (.int (3 : Int32))] [(.ref b223)])) := fun tq kq => G401 tq (st403 _ kq)
  have G405 : Go p e below A0 (T403.setTop (mkF m 128 #[.val (.ref d), .val (.ref a), .val (.int (0 : Int32)), .val (.int (4 : Int32)), .val (.int (3 : Int32))] [(.int (0 : Int32)), (.ref b223)])) := fun tq kq => G404 tq (by
    refine XS.iloadN X403.here hx rfl (hb hby d11_127) rfl ?_
    show Steps p.tables e below (T403.setTop (mkF m 128 #[.val (.ref d), .val (.ref a), .val (.int (0 : Int32)), .val (.int (4 : Int32)), .val (.int (3 : Int32))] [(.int (0 : Int32)), (.ref b223)])) _
    exact kq)
  have f406 := ((f378.other W385 (Nat.ne_of_lt lt_b223_b294)).other W399 (Nat.ne_of_lt lt_b223_b281))
  obtain ⟨cl407, Ar407, q407, S407, M407, H407, Gf407⟩ := id f406
  have hi408 : ¬ ((0 : Int32) < 0 ∨ cl407.slots.size ≤ ((0 : Int32)).toNatClampNeg) := (inb_of S407 ⟨by decide, by decide⟩)
  have G409 : Go p e below A0 (T403.setTop (mkF m 133 #[.val (.ref d), .val (.ref a), .val (.int (0 : Int32)), .val (.int (4 : Int32)), .val (.int (3 : Int32))] [(.int (3 : Int32)), (.int (3 : Int32)), (.ref b294)])) := fun tq kq => G405 tq (by
    refine X403.aaload hx (j := (0 : Int32)) (v := (.ref b294)) (by rw [e403]; exact Ar407.1) (State.isArrayOf_alike hZ.alike Ar407.2.1) rfl Ar407.2.2 hi408 (H407.at hi408 rfl) (g := (mkF m 128 #[.val (.ref d), .val (.ref a), .val (.int (0 : Int32)), .val (.int (4 : Int32)), .val (.int (3 : Int32))] [(.int (0 : Int32)), (.ref b223)])) rfl rfl (hb hby d11_128) _ ?_
    show Steps p.tables e below (T403.setTop (mkF m 129 #[.val (.ref d), .val (.ref a), .val (.int (0 : Int32)), .val (.int (4 : Int32)), .val (.int (3 : Int32))] [(.ref b294)])) _
    refine XS.iload X403.here hx rfl (hb hby d11_129) rfl ?_
    show Steps p.tables e below (T403.setTop (mkF m 131 #[.val (.ref d), .val (.ref a), .val (.int (0 : Int32)), .val (.int (4 : Int32)), .val (.int (3 : Int32))] [(.int (3 : Int32)), (.ref b294)])) _
    refine XS.iload X403.here hx rfl (hb hby d11_131) rfl ?_
    show Steps p.tables e below (T403.setTop (mkF m 133 #[.val (.ref d), .val (.ref a), .val (.int (0 : Int32)), .val (.int (4 : Int32)), .val (.int (3 : Int32))] [(.int (3 : Int32)), (.int (3 : Int32)), (.ref b294)])) _
    exact kq)
  have f410 := (V385'.other W399 (Ne.symm (Nat.ne_of_lt lt_b281_b294)))
  obtain ⟨cl411, Ar411, q411, S411, M411, H411, Gf411⟩ := id f410
  have hi412 : ¬ ((3 : Int32) < 0 ∨ cl411.slots.size ≤ ((3 : Int32)).toNatClampNeg) := (inb_of S411 ⟨by decide, by decide⟩)
  obtain ⟨T413, h413, X413, e413, W413, st413⟩ := stI X403 hx hZ e403 Ar411 (j := (3 : Int32)) hi412 (g := (mkF m 133 #[.val (.ref d), .val (.ref a), .val (.int (0 : Int32)), .val (.int (4 : Int32)), .val (.int (3 : Int32))] [(.int (3 : Int32)), (.int (3 : Int32)), (.ref b294)])) rfl rfl (hb hby d11_133)
  have N413 := Fr.snoc X413 N399 g_b294
  have V413 := Arv.set Ar411 q411 S411 M411 H411 Gf411 rfl W413 3 rfl (Nat.le_of_ble_eq_true rfl)
  have V413' : Arv Z h413 b294 k294 .int (4 : Int32) [(.int (0 : Int32)), (.int (1 : Int32)), (.int (2 : Int32)), (.int (3 : Int32))] (.int (0 : Int32)) := by exact V413
  have G414 : Go p e below A0 (T413.setTop (mkF m 134 #[.val (.ref d), .val (.ref a), .val (.int (0 : Int32)), .val (.int (4 : Int32)), .val (.int (3 : Int32))] [])) := fun tq kq => G409 tq (st413 _ kq)
  have G415 : Go p e below A0 (T413.setTop (mkF m 141 #[.val (.ref d), .val (.ref a), .val (.int (0 : Int32)), .val (.int (4 : Int32)), .val (.int (4 : Int32))] [(.ref d)])) := fun tq kq => G414 tq (by
    refine XS.iinc X413.here hx rfl (hb hby d11_134) rfl (l' := #[.val (.ref d), .val (.ref a), .val (.int (0 : Int32)), .val (.int (4 : Int32)), .val (.int ((3 : Int32) + (1 : Int32)))]) rfl ?_
    show Steps p.tables e below (T413.setTop (mkF m 137 #[.val (.ref d), .val (.ref a), .val (.int (0 : Int32)), .val (.int (4 : Int32)), .val (.int ((3 : Int32) + (1 : Int32)))] [])) _
    rw [show ((3 : Int32) + (1 : Int32)) = (4 : Int32) from (by decide : ((3 : Int32) + (1 : Int32)) = (4 : Int32))]
    show Steps p.tables e below (T413.setTop (mkF m 137 #[.val (.ref d), .val (.ref a), .val (.int (0 : Int32)), .val (.int (4 : Int32)), .val (.int (4 : Int32))] [])) _
    refine XS.goto X413.here hx rfl (pc0 := 137) (pc' := 106) rfl (hb hby d11_137) (by decide) (by decide) ?_
    show Steps p.tables e below (T413.setTop (mkF m 106 #[.val (.ref d), .val (.ref a), .val (.int (0 : Int32)), .val (.int (4 : Int32)), .val (.int (4 : Int32))] [])) _
    refine XS.iload X413.here hx rfl (hb hby d11_106) rfl ?_
    show Steps p.tables e below (T413.setTop (mkF m 108 #[.val (.ref d), .val (.ref a), .val (.int (0 : Int32)), .val (.int (4 : Int32)), .val (.int (4 : Int32))] [(.int (4 : Int32))])) _
    refine XS.iloadN X413.here hx rfl (hb hby d11_108) rfl ?_
    show Steps p.tables e below (T413.setTop (mkF m 109 #[.val (.ref d), .val (.ref a), .val (.int (0 : Int32)), .val (.int (4 : Int32)), .val (.int (4 : Int32))] [(.int (4 : Int32)), (.int (4 : Int32))])) _
    refine XS.icmpYes X413.here hx rfl (pc0 := 109) (pc' := 140) rfl (hb hby d11_109) rfl (by decide) (by decide) (by decide) ?_
    show Steps p.tables e below (T413.setTop (mkF m 140 #[.val (.ref d), .val (.ref a), .val (.int (0 : Int32)), .val (.int (4 : Int32)), .val (.int (4 : Int32))] [])) _
    refine XS.aloadN X413.here hx rfl (hb hby d11_140) rfl rfl ?_
    show Steps p.tables e below (T413.setTop (mkF m 141 #[.val (.ref d), .val (.ref a), .val (.int (0 : Int32)), .val (.int (4 : Int32)), .val (.int (4 : Int32))] [(.ref d)])) _
    exact kq)
  have f416 := ((((((((((((((fw241.ext E249).other W254 (Or.inr (slot_ne (Or.inr (hw _ (List.mem_of_getElem? (i := 109) rfl))) (Or.inr (hw _ (List.mem_of_getElem? (i := 111) rfl))) (by decide) (t := (.array .int)) (t' := (.array (.array .int))) (by decide) (by decide)))).ext E281).other W287 (Or.inl (Nat.ne_of_lt lt_d_b210))).ext E294).other W301 (Or.inl (Nat.ne_of_lt lt_d_b223))).other W315 (Or.inl (Nat.ne_of_lt lt_d_b281))).other W329 (Or.inl (Nat.ne_of_lt lt_d_b294))).other W343 (Or.inl (Nat.ne_of_lt lt_d_b281))).other W357 (Or.inl (Nat.ne_of_lt lt_d_b294))).other W371 (Or.inl (Nat.ne_of_lt lt_d_b281))).other W385 (Or.inl (Nat.ne_of_lt lt_d_b294))).other W399 (Or.inl (Nat.ne_of_lt lt_d_b281))).other W413 (Or.inl (Nat.ne_of_lt lt_d_b294)))
  obtain ⟨T417, X417, e417, st417⟩ := getF X413 hx hZ hown (host := "") (Or.inl (hw _ (List.mem_of_getElem? (i := 108) rfl))) Via.refl e413 f416 (g := (mkF m 141 #[.val (.ref d), .val (.ref a), .val (.int (0 : Int32)), .val (.int (4 : Int32)), .val (.int (4 : Int32))] [(.ref d)])) rfl rfl (hb hby d11_141)
  have G418 : Go p e below A0 (T417.setTop (mkF m 144 #[.val (.ref d), .val (.ref a), .val (.int (0 : Int32)), .val (.int (4 : Int32)), .val (.int (4 : Int32))] [(.ref b236)])) := fun tq kq => G415 tq (st417 _ kq)
  have G419 : Go p e below A0 (T417.setTop (mkF m 146 #[.val (.ref d), .val (.ref a), .val (.int (0 : Int32)), .val (.int (4 : Int32)), .val (.int (4 : Int32))] [(.int (4 : Int32)), (.int (0 : Int32)), (.ref b236)])) := fun tq kq => G418 tq (by
    refine XS.iloadN X417.here hx rfl (hb hby d11_144) rfl ?_
    show Steps p.tables e below (T417.setTop (mkF m 145 #[.val (.ref d), .val (.ref a), .val (.int (0 : Int32)), .val (.int (4 : Int32)), .val (.int (4 : Int32))] [(.int (0 : Int32)), (.ref b236)])) _
    refine XS.iloadN X417.here hx rfl (hb hby d11_145) rfl ?_
    show Steps p.tables e below (T417.setTop (mkF m 146 #[.val (.ref d), .val (.ref a), .val (.int (0 : Int32)), .val (.int (4 : Int32)), .val (.int (4 : Int32))] [(.int (4 : Int32)), (.int (0 : Int32)), (.ref b236)])) _
    exact kq)
  have f420 := (((((((((((((((V236.other W241 (Ne.symm (Nat.ne_of_lt lt_d_b236))).ext E249).other W254 (Ne.symm (Nat.ne_of_lt lt_d_b236))).ext E281).other W287 (Ne.symm (Nat.ne_of_lt lt_b210_b236))).ext E294).other W301 (Ne.symm (Nat.ne_of_lt lt_b223_b236))).other W315 (Nat.ne_of_lt lt_b236_b281)).other W329 (Nat.ne_of_lt lt_b236_b294)).other W343 (Nat.ne_of_lt lt_b236_b281)).other W357 (Nat.ne_of_lt lt_b236_b294)).other W371 (Nat.ne_of_lt lt_b236_b281)).other W385 (Nat.ne_of_lt lt_b236_b294)).other W399 (Nat.ne_of_lt lt_b236_b281)).other W413 (Nat.ne_of_lt lt_b236_b294))
  obtain ⟨cl421, Ar421, q421, S421, M421, H421, Gf421⟩ := id f420
  have hi422 : ¬ ((0 : Int32) < 0 ∨ cl421.slots.size ≤ ((0 : Int32)).toNatClampNeg) := (inb_of S421 ⟨by decide, by decide⟩)
  obtain ⟨T423, h423, X423, e423, W423, st423⟩ := stI X417 hx hZ e417 Ar421 (j := (0 : Int32)) hi422 (g := (mkF m 146 #[.val (.ref d), .val (.ref a), .val (.int (0 : Int32)), .val (.int (4 : Int32)), .val (.int (4 : Int32))] [(.int (4 : Int32)), (.int (0 : Int32)), (.ref b236)])) rfl rfl (hb hby d11_146)
  have N423 := Fr.snoc X423 N413 g_b236
  have V423 := Arv.set Ar421 q421 S421 M421 H421 Gf421 rfl W423 0 rfl (Nat.le_of_ble_eq_true rfl)
  have V423' : Arv Z h423 b236 k236 .int (2 : Int32) [(.int (4 : Int32)), (.int (0 : Int32))] (.int (0 : Int32)) := by exact V423
  have G424 : Go p e below A0 (T423.setTop (mkF m 147 #[.val (.ref d), .val (.ref a), .val (.int (0 : Int32)), .val (.int (4 : Int32)), .val (.int (4 : Int32))] [])) := fun tq kq => G419 tq (st423 _ kq)
  have G425 : Go p e below A0 (T423.setTop (mkF m 148 #[.val (.ref d), .val (.ref a), .val (.int (0 : Int32)), .val (.int (4 : Int32)), .val (.int (4 : Int32))] [(.ref d)])) := fun tq kq => G424 tq (by
    refine XS.aloadN X423.here hx rfl (hb hby d11_147) rfl rfl ?_
    show Steps p.tables e below (T423.setTop (mkF m 148 #[.val (.ref d), .val (.ref a), .val (.int (0 : Int32)), .val (.int (4 : Int32)), .val (.int (4 : Int32))] [(.ref d)])) _
    exact kq)
  have f426 := (((((((((((((fw254.ext E281).other W287 (Or.inl (Nat.ne_of_lt lt_d_b210))).ext E294).other W301 (Or.inl (Nat.ne_of_lt lt_d_b223))).other W315 (Or.inl (Nat.ne_of_lt lt_d_b281))).other W329 (Or.inl (Nat.ne_of_lt lt_d_b294))).other W343 (Or.inl (Nat.ne_of_lt lt_d_b281))).other W357 (Or.inl (Nat.ne_of_lt lt_d_b294))).other W371 (Or.inl (Nat.ne_of_lt lt_d_b281))).other W385 (Or.inl (Nat.ne_of_lt lt_d_b294))).other W399 (Or.inl (Nat.ne_of_lt lt_d_b281))).other W413 (Or.inl (Nat.ne_of_lt lt_d_b294))).other W423 (Or.inl (Nat.ne_of_lt lt_d_b236)))
  obtain ⟨T427, X427, e427, st427⟩ := getF X423 hx hZ hown (host := "") (Or.inl (hw _ (List.mem_of_getElem? (i := 110) rfl))) Via.refl e423 f426 (g := (mkF m 148 #[.val (.ref d), .val (.ref a), .val (.int (0 : Int32)), .val (.int (4 : Int32)), .val (.int (4 : Int32))] [(.ref d)])) rfl rfl (hb hby d11_148)
  have G428 : Go p e below A0 (T427.setTop (mkF m 151 #[.val (.ref d), .val (.ref a), .val (.int (0 : Int32)), .val (.int (4 : Int32)), .val (.int (4 : Int32))] [(.ref b249)])) := fun tq kq => G425 tq (st427 _ kq)
  have G429 : Go p e below A0 (T427.setTop (mkF m 153 #[.val (.ref d), .val (.ref a), .val (.int (0 : Int32)), .val (.int (4 : Int32)), .val (.int (4 : Int32))] [(.int (4 : Int32)), (.int (0 : Int32)), (.ref b249)])) := fun tq kq => G428 tq (by
    refine XS.iloadN X427.here hx rfl (hb hby d11_151) rfl ?_
    show Steps p.tables e below (T427.setTop (mkF m 152 #[.val (.ref d), .val (.ref a), .val (.int (0 : Int32)), .val (.int (4 : Int32)), .val (.int (4 : Int32))] [(.int (0 : Int32)), (.ref b249)])) _
    refine XS.iloadN X427.here hx rfl (hb hby d11_152) rfl ?_
    show Steps p.tables e below (T427.setTop (mkF m 153 #[.val (.ref d), .val (.ref a), .val (.int (0 : Int32)), .val (.int (4 : Int32)), .val (.int (4 : Int32))] [(.int (4 : Int32)), (.int (0 : Int32)), (.ref b249)])) _
    exact kq)
  have f431 := (Nat.le_trans (Nat.le_trans (Nat.le_trans (Nat.le_trans (Nat.le_trans (Nat.le_trans (Nat.le_trans (Nat.le_trans (Nat.le_trans (Nat.le_trans (Nat.le_trans f295 E294.1) (Keep.of_wr W301).1) (Keep.of_wr W315).1) (Keep.of_wr W329).1) (Keep.of_wr W343).1) (Keep.of_wr W357).1) (Keep.of_wr W371).1) (Keep.of_wr W385).1) (Keep.of_wr W399).1) (Keep.of_wr W413).1) (Keep.of_wr W423).1)
  obtain ⟨T430, h430, k430, X430, e430, E430, A430, Ex430, st430⟩ := newPE X427 hx hZ (hw _ (List.mem_of_getElem? (i := 37) rfl)) e427 (g := (mkF m 153 #[.val (.ref d), .val (.ref a), .val (.int (0 : Int32)), .val (.int (4 : Int32)), .val (.int (4 : Int32))] [(.int (4 : Int32)), (.int (0 : Int32)), (.ref b249)])) rfl (hb hby d11_153) rfl (by decide) (cap := 4) (by decide) (by decide) (by decide) (by decide) (ad := "[I") (by decide)
  obtain ⟨b430, g430⟩ : ∃ z, z = h423.size := ⟨_, rfl⟩
  rw [← g430] at A430 st430 Ex430
  have f432 := (Nat.le_trans (Nat.le_trans (Nat.le_trans (Nat.le_trans (Nat.le_trans (Nat.le_trans (Nat.le_trans (Nat.le_trans (Nat.le_trans (Nat.le_trans (Nat.le_trans f296 E294.1) (Keep.of_wr W301).1) (Keep.of_wr W315).1) (Keep.of_wr W329).1) (Keep.of_wr W343).1) (Keep.of_wr W357).1) (Keep.of_wr W371).1) (Keep.of_wr W385).1) (Keep.of_wr W399).1) (Keep.of_wr W413).1) (Keep.of_wr W423).1)
  have sz_b430 : h0.size ≤ b430 := Nat.le_trans f432 (Nat.le_of_eq g430.symm)
  have g_b430 : n0 ≤ b430 := Nat.le_trans f431 (Nat.le_of_eq g430.symm)
  have lt_d_b430 : d < b430 := Nat.lt_of_lt_of_le ((((((((((((((f252.wr W254).ext E281).wr W287).ext E294).wr W301).wr W315).wr W329).wr W343).wr W357).wr W371).wr W385).wr W399).wr W413).wr W423).lt (Nat.le_of_eq g430.symm)
  have lt_a_b430 : a < b430 := Nat.lt_of_lt_of_le (((((((((((((f264.ext E281).wr W287).ext E294).wr W301).wr W315).wr W329).wr W343).wr W357).wr W371).wr W385).wr W399).wr W413).wr W423).lt (Nat.le_of_eq g430.symm)
  have lt_b_b430 : b < b430 := Nat.lt_of_lt_of_le (((((((((((((f267.ext E281).other W287 (Nat.ne_of_lt lt_b_b210)).ext E294).other W301 (Nat.ne_of_lt lt_b_b223)).other W315 (Nat.ne_of_lt lt_b_b281)).other W329 (Nat.ne_of_lt lt_b_b294)).other W343 (Nat.ne_of_lt lt_b_b281)).other W357 (Nat.ne_of_lt lt_b_b294)).other W371 (Nat.ne_of_lt lt_b_b281)).other W385 (Nat.ne_of_lt lt_b_b294)).other W399 (Nat.ne_of_lt lt_b_b281)).other W413 (Nat.ne_of_lt lt_b_b294)).other W423 (Nat.ne_of_lt lt_b_b236)).lt (Nat.le_of_eq g430.symm)
  have lt_x_b430 : x < b430 := Nat.lt_of_lt_of_le (((((((((((((f270.ext E281).wr W287).ext E294).wr W301).wr W315).wr W329).wr W343).wr W357).wr W371).wr W385).wr W399).wr W413).wr W423).lt (Nat.le_of_eq g430.symm)
  have lt_cx_b430 : cx < b430 := Nat.lt_of_lt_of_le (((((((((((((f275.ext E281).other W287 (Nat.ne_of_lt lt_cx_b210)).ext E294).other W301 (Nat.ne_of_lt lt_cx_b223)).other W315 (Nat.ne_of_lt lt_cx_b281)).other W329 (Nat.ne_of_lt lt_cx_b294)).other W343 (Nat.ne_of_lt lt_cx_b281)).other W357 (Nat.ne_of_lt lt_cx_b294)).other W371 (Nat.ne_of_lt lt_cx_b281)).other W385 (Nat.ne_of_lt lt_cx_b294)).other W399 (Nat.ne_of_lt lt_cx_b281)).other W413 (Nat.ne_of_lt lt_cx_b294)).other W423 (Nat.ne_of_lt lt_cx_b236)).lt (Nat.le_of_eq g430.symm)
  have lt_y_b430 : y < b430 := Nat.lt_of_lt_of_le ((((((((((((((((((((((Ey.wr W202).ext E210).wr W215).ext E223).wr W228).ext E236).wr W241).ext E249).wr W254).ext E281).wr W287).ext E294).wr W301).wr W315).wr W329).wr W343).wr W357).wr W371).wr W385).wr W399).wr W413).wr W423).lt (Nat.le_of_eq g430.symm)
  have lt_cy_b430 : cy < b430 := Nat.lt_of_lt_of_le ((((((((((((((((((((((Ay.other W202 (Ne.symm hn_cy)).ext E210).other W215 (Ne.symm hn_cy)).ext E223).other W228 (Ne.symm hn_cy)).ext E236).other W241 (Ne.symm hn_cy)).ext E249).other W254 (Ne.symm hn_cy)).ext E281).other W287 (Nat.ne_of_lt lt_cy_b210)).ext E294).other W301 (Nat.ne_of_lt lt_cy_b223)).other W315 (Nat.ne_of_lt lt_cy_b281)).other W329 (Nat.ne_of_lt lt_cy_b294)).other W343 (Nat.ne_of_lt lt_cy_b281)).other W357 (Nat.ne_of_lt lt_cy_b294)).other W371 (Nat.ne_of_lt lt_cy_b281)).other W385 (Nat.ne_of_lt lt_cy_b294)).other W399 (Nat.ne_of_lt lt_cy_b281)).other W413 (Nat.ne_of_lt lt_cy_b294)).other W423 (Nat.ne_of_lt lt_cy_b236)).lt (Nat.le_of_eq g430.symm)
  have lt_b210_b430 : b210 < b430 := Nat.lt_of_lt_of_le (((f392.other W399 (Nat.ne_of_lt lt_b210_b281)).other W413 (Nat.ne_of_lt lt_b210_b294)).other W423 (Nat.ne_of_lt lt_b210_b236)).lt (Nat.le_of_eq g430.symm)
  have lt_b223_b430 : b223 < b430 := Nat.lt_of_lt_of_le ((f406.other W413 (Nat.ne_of_lt lt_b223_b294)).other W423 (Nat.ne_of_lt lt_b223_b236)).lt (Nat.le_of_eq g430.symm)
  have lt_b236_b430 : b236 < b430 := Nat.lt_of_lt_of_le V423'.lt (Nat.le_of_eq g430.symm)
  have lt_b249_b430 : b249 < b430 := Nat.lt_of_lt_of_le ((((((((((((((V249.other W254 (Ne.symm (Nat.ne_of_lt lt_d_b249))).ext E281).other W287 (Ne.symm (Nat.ne_of_lt lt_b210_b249))).ext E294).other W301 (Ne.symm (Nat.ne_of_lt lt_b223_b249))).other W315 (Nat.ne_of_lt lt_b249_b281)).other W329 (Nat.ne_of_lt lt_b249_b294)).other W343 (Nat.ne_of_lt lt_b249_b281)).other W357 (Nat.ne_of_lt lt_b249_b294)).other W371 (Nat.ne_of_lt lt_b249_b281)).other W385 (Nat.ne_of_lt lt_b249_b294)).other W399 (Nat.ne_of_lt lt_b249_b281)).other W413 (Nat.ne_of_lt lt_b249_b294)).other W423 (Ne.symm (Nat.ne_of_lt lt_b236_b249))).lt (Nat.le_of_eq g430.symm)
  have lt_b281_b430 : b281 < b430 := Nat.lt_of_lt_of_le ((V399'.other W413 (Nat.ne_of_lt lt_b281_b294)).other W423 (Ne.symm (Nat.ne_of_lt lt_b236_b281))).lt (Nat.le_of_eq g430.symm)
  have lt_b294_b430 : b294 < b430 := Nat.lt_of_lt_of_le (V413'.other W423 (Ne.symm (Nat.ne_of_lt lt_b236_b294))).lt (Nat.le_of_eq g430.symm)
  have V430 : Arv Z h430 b430 k430 .int (4 : Int32) [(.int (0 : Int32)), (.int (0 : Int32)), (.int (0 : Int32)), (.int (0 : Int32))] (.int (0 : Int32)) := (Arv.new A430 (by decide)).pad (pad_rep [] (.int (0 : Int32)) 4)
  have G433 : Go p e below A0 (T430.setTop (mkF m 155 #[.val (.ref d), .val (.ref a), .val (.int (0 : Int32)), .val (.int (4 : Int32)), .val (.int (4 : Int32))] [(.ref b430), (.int (0 : Int32)), (.ref b249)])) := fun tq kq => G429 tq (st430 _ kq)
  have f434 := (((((((((((((((V249.other W254 (Ne.symm (Nat.ne_of_lt lt_d_b249))).ext E281).other W287 (Ne.symm (Nat.ne_of_lt lt_b210_b249))).ext E294).other W301 (Ne.symm (Nat.ne_of_lt lt_b223_b249))).other W315 (Nat.ne_of_lt lt_b249_b281)).other W329 (Nat.ne_of_lt lt_b249_b294)).other W343 (Nat.ne_of_lt lt_b249_b281)).other W357 (Nat.ne_of_lt lt_b249_b294)).other W371 (Nat.ne_of_lt lt_b249_b281)).other W385 (Nat.ne_of_lt lt_b249_b294)).other W399 (Nat.ne_of_lt lt_b249_b281)).other W413 (Nat.ne_of_lt lt_b249_b294)).other W423 (Ne.symm (Nat.ne_of_lt lt_b236_b249))).ext E430)
  obtain ⟨cl435, Ar435, q435, S435, M435, H435, Gf435⟩ := id f434
  have hi436 : ¬ ((0 : Int32) < 0 ∨ cl435.slots.size ≤ ((0 : Int32)).toNatClampNeg) := (inb_of S435 ⟨by decide, by decide⟩)
  obtain ⟨T437, h437, X437, e437, W437, st437⟩ := stR X430 hx hZ e430 Ar435 (j := (0 : Int32)) hi436 rfl (Sto.ofVA Ar435 q435 O249 (Ins.self Ex430)) (g := (mkF m 155 #[.val (.ref d), .val (.ref a), .val (.int (0 : Int32)), .val (.int (4 : Int32)), .val (.int (4 : Int32))] [(.ref b430), (.int (0 : Int32)), (.ref b249)])) rfl rfl (hb hby d11_155)
  have N437 := Fr.snoc X437 N423 g_b249
  have V437 := Arv.set Ar435 q435 S435 M435 H435 Gf435 rfl W437 0 rfl (Nat.le_of_ble_eq_true rfl)
  have V437' : Arv Z h437 b249 k249 (.array .int) (2 : Int32) [(.ref b430), .null] .null := by exact V437
  have G438 : Go p e below A0 (T437.setTop (mkF m 156 #[.val (.ref d), .val (.ref a), .val (.int (0 : Int32)), .val (.int (4 : Int32)), .val (.int (4 : Int32))] [])) := fun tq kq => G433 tq (st437 _ kq)
  have G439 : Go p e below A0 (T437.setTop (mkF m 64 #[.val (.ref d), .val (.ref a), .val (.int (1 : Int32)), .val (.int (4 : Int32)), .val (.int (4 : Int32))] [(.ref d), (.int (1 : Int32))])) := fun tq kq => G438 tq (by
    refine XS.iinc X437.here hx rfl (hb hby d11_156) rfl (l' := #[.val (.ref d), .val (.ref a), .val (.int ((0 : Int32) + (1 : Int32))), .val (.int (4 : Int32)), .val (.int (4 : Int32))]) rfl ?_
    show Steps p.tables e below (T437.setTop (mkF m 159 #[.val (.ref d), .val (.ref a), .val (.int ((0 : Int32) + (1 : Int32))), .val (.int (4 : Int32)), .val (.int (4 : Int32))] [])) _
    rw [show ((0 : Int32) + (1 : Int32)) = (1 : Int32) from (by decide : ((0 : Int32) + (1 : Int32)) = (1 : Int32))]
    show Steps p.tables e below (T437.setTop (mkF m 159 #[.val (.ref d), .val (.ref a), .val (.int (1 : Int32)), .val (.int (4 : Int32)), .val (.int (4 : Int32))] [])) _
    refine XS.goto X437.here hx rfl (pc0 := 159) (pc' := 62) rfl (hb hby d11_159) (by decide) (by decide) ?_
    show Steps p.tables e below (T437.setTop (mkF m 62 #[.val (.ref d), .val (.ref a), .val (.int (1 : Int32)), .val (.int (4 : Int32)), .val (.int (4 : Int32))] [])) _
    refine XS.iloadN X437.here hx rfl (hb hby d11_62) rfl ?_
    show Steps p.tables e below (T437.setTop (mkF m 63 #[.val (.ref d), .val (.ref a), .val (.int (1 : Int32)), .val (.int (4 : Int32)), .val (.int (4 : Int32))] [(.int (1 : Int32))])) _
    refine XS.aloadN X437.here hx rfl (hb hby d11_63) rfl rfl ?_
    show Steps p.tables e below (T437.setTop (mkF m 64 #[.val (.ref d), .val (.ref a), .val (.int (1 : Int32)), .val (.int (4 : Int32)), .val (.int (4 : Int32))] [(.ref d), (.int (1 : Int32))])) _
    exact kq)
  have f440 := (((((f388.other W399 (Or.inl (Nat.ne_of_lt lt_d_b281))).other W413 (Or.inl (Nat.ne_of_lt lt_d_b294))).other W423 (Or.inl (Nat.ne_of_lt lt_d_b236))).ext E430).other W437 (Or.inl (Nat.ne_of_lt lt_d_b249)))
  obtain ⟨T441, X441, e441, st441⟩ := getF X437 hx hZ hown (host := "") (Or.inl (hw _ (List.mem_of_getElem? (i := 104) rfl))) Via.refl e437 f440 (g := (mkF m 64 #[.val (.ref d), .val (.ref a), .val (.int (1 : Int32)), .val (.int (4 : Int32)), .val (.int (4 : Int32))] [(.ref d), (.int (1 : Int32))])) rfl rfl (hb hby d11_64)
  have G442 : Go p e below A0 (T441.setTop (mkF m 67 #[.val (.ref d), .val (.ref a), .val (.int (1 : Int32)), .val (.int (4 : Int32)), .val (.int (4 : Int32))] [(.ref b210), (.int (1 : Int32))])) := fun tq kq => G439 tq (st441 _ kq)
  have f443 := (((((f392.other W399 (Nat.ne_of_lt lt_b210_b281)).other W413 (Nat.ne_of_lt lt_b210_b294)).other W423 (Nat.ne_of_lt lt_b210_b236)).ext E430).other W437 (Nat.ne_of_lt lt_b210_b249))
  obtain ⟨cl444, Ar444, q444, S444, M444, H444, Gf444⟩ := id f443
  have G445 : Go p e below A0 (T441.setTop (mkF m 73 #[.val (.ref d), .val (.ref a), .val (.int (1 : Int32)), .val (.int (4 : Int32)), .val (.int (4 : Int32))] [(.int (1 : Int32)), (.ref a)])) := fun tq kq => G442 tq (by
    refine X441.arraylength hx (by rw [e441]; exact Ar444.1) (State.isArrayOf_alike hZ.alike Ar444.2.1) (g := (mkF m 67 #[.val (.ref d), .val (.ref a), .val (.int (1 : Int32)), .val (.int (4 : Int32)), .val (.int (4 : Int32))] [(.ref b210), (.int (1 : Int32))])) rfl rfl (hb hby d11_67) _ ?_
    rw [len_of S444 M444]
    show Steps p.tables e below (T441.setTop (mkF m 68 #[.val (.ref d), .val (.ref a), .val (.int (1 : Int32)), .val (.int (4 : Int32)), .val (.int (4 : Int32))] [(.int (2 : Int32)), (.int (1 : Int32))])) _
    refine XS.icmpNo X441.here hx rfl (hb hby d11_68) rfl (by decide) ?_
    show Steps p.tables e below (T441.setTop (mkF m 71 #[.val (.ref d), .val (.ref a), .val (.int (1 : Int32)), .val (.int (4 : Int32)), .val (.int (4 : Int32))] [])) _
    refine XS.aloadN X441.here hx rfl (hb hby d11_71) rfl rfl ?_
    show Steps p.tables e below (T441.setTop (mkF m 72 #[.val (.ref d), .val (.ref a), .val (.int (1 : Int32)), .val (.int (4 : Int32)), .val (.int (4 : Int32))] [(.ref a)])) _
    refine XS.iloadN X441.here hx rfl (hb hby d11_72) rfl ?_
    show Steps p.tables e below (T441.setTop (mkF m 73 #[.val (.ref d), .val (.ref a), .val (.int (1 : Int32)), .val (.int (4 : Int32)), .val (.int (4 : Int32))] [(.int (1 : Int32)), (.ref a)])) _
    exact kq)
  have f447 := (((((((((((((((f264.ext E281).wr W287).ext E294).wr W301).wr W315).wr W329).wr W343).wr W357).wr W371).wr W385).wr W399).wr W413).wr W423).ext E430).wr W437)
  have f448 := (((((((((((((((f265.ext E281).other W287 (Or.inl (Nat.ne_of_lt lt_a_b210))).ext E294).other W301 (Or.inl (Nat.ne_of_lt lt_a_b223))).other W315 (Or.inl (Nat.ne_of_lt lt_a_b281))).other W329 (Or.inl (Nat.ne_of_lt lt_a_b294))).other W343 (Or.inl (Nat.ne_of_lt lt_a_b281))).other W357 (Or.inl (Nat.ne_of_lt lt_a_b294))).other W371 (Or.inl (Nat.ne_of_lt lt_a_b281))).other W385 (Or.inl (Nat.ne_of_lt lt_a_b294))).other W399 (Or.inl (Nat.ne_of_lt lt_a_b281))).other W413 (Or.inl (Nat.ne_of_lt lt_a_b294))).other W423 (Or.inl (Nat.ne_of_lt lt_a_b236))).ext E430).other W437 (Or.inl (Nat.ne_of_lt lt_a_b249)))
  have f449 := (((((((((((((((f266.ext E281).other W287 (Or.inl (Nat.ne_of_lt lt_a_b210))).ext E294).other W301 (Or.inl (Nat.ne_of_lt lt_a_b223))).other W315 (Or.inl (Nat.ne_of_lt lt_a_b281))).other W329 (Or.inl (Nat.ne_of_lt lt_a_b294))).other W343 (Or.inl (Nat.ne_of_lt lt_a_b281))).other W357 (Or.inl (Nat.ne_of_lt lt_a_b294))).other W371 (Or.inl (Nat.ne_of_lt lt_a_b281))).other W385 (Or.inl (Nat.ne_of_lt lt_a_b294))).other W399 (Or.inl (Nat.ne_of_lt lt_a_b281))).other W413 (Or.inl (Nat.ne_of_lt lt_a_b294))).other W423 (Or.inl (Nat.ne_of_lt lt_a_b236))).ext E430).other W437 (Or.inl (Nat.ne_of_lt lt_a_b249)))
  have f450 := (((((((((((((((f267.ext E281).other W287 (Nat.ne_of_lt lt_b_b210)).ext E294).other W301 (Nat.ne_of_lt lt_b_b223)).other W315 (Nat.ne_of_lt lt_b_b281)).other W329 (Nat.ne_of_lt lt_b_b294)).other W343 (Nat.ne_of_lt lt_b_b281)).other W357 (Nat.ne_of_lt lt_b_b294)).other W371 (Nat.ne_of_lt lt_b_b281)).other W385 (Nat.ne_of_lt lt_b_b294)).other W399 (Nat.ne_of_lt lt_b_b281)).other W413 (Nat.ne_of_lt lt_b_b294)).other W423 (Nat.ne_of_lt lt_b_b236)).ext E430).other W437 (Nat.ne_of_lt lt_b_b249))
  have f451 := (Nat.le_trans (Nat.le_trans f431 E430.1) (Keep.of_wr W437).1)
  obtain ⟨cq446, kq446, q446a, q446b, q446c⟩ := isOf hZ e441 f447
  obtain ⟨_, _, ⟨T446, L446, k446, n446⟩, -, X446, ⟨Lc446, hQ446, l446, y446, z446⟩, st446⟩ := X441.interfaceBack hx (xi := (⟨"java/util/List", "get", "(I)Ljava/lang/Object;"⟩ : MethodName)) (y := (⟨"java/util/ArrayList", "get", "(I)Ljava/lang/Object;"⟩ : MethodName)) hown (mvT hZ (hw _ (List.mem_of_getElem? (i := 112) rfl))) (mvT hZ (hw _ (List.mem_of_getElem? (i := 113) rfl))) (mvT hZ (hw _ (List.mem_of_getElem? (i := 114) rfl))) (mvT hZ (hw _ (List.mem_of_getElem? (i := 115) rfl))) (mvT hZ (hw _ (List.mem_of_getElem? (i := 116) rfl))) (mvT hZ (hw _ (List.mem_of_getElem? (i := 117) rfl))) (mvT hZ (hw _ (List.mem_of_getElem? (i := 118) rfl))) (mvT hZ (hw _ (List.mem_of_getElem? (i := 100) rfl))) (by decide) (backOf (W := 0) (rmGT1 l Z a0 hw [] a b x y kb h437 n0 f451 f447 f448 f449 f450) hZ (hw _ (List.mem_of_getElem? (i := 119) rfl)) (hw _ (List.mem_of_getElem? (i := 2) rfl)) (by decide) (by decide)) q446a q446b q446c (g := (mkF m 73 #[.val (.ref d), .val (.ref a), .val (.int (1 : Int32)), .val (.int (4 : Int32)), .val (.int (4 : Int32))] [(.int (1 : Int32)), (.ref a)])) rfl (by rw [hml]; rfl) (Steps.refl _) (argsL := [(.int (1 : Int32))]) (rest := []) (lenOf pd_6 rfl) rfl (by show 2 * 0 + _ ≤ _; exact Nat.le_of_eq rfl) (hb hby d11_73) (fun _ _ => ⟨rfl, e441, (by decide : 7 + 0 ≤ _), (by decide : 20 + 0 ≤ _)⟩)
  dsimp only [Pt.U, Pt.locs, Pt.cells, Pt.slots] at X446 l446 y446 z446 st446 hQ446
  obtain rfl : k446 = 7 := y446
  obtain rfl : n446 = 20 := z446
  obtain ⟨rfl, N446q, e446⟩ := hQ446
  have N446 : Fr n0 L446 := by rw [l446]; exact Fr.app N437 N446q
  have G452 : Go p e below A0 (T446.setTop (mkF m 78 #[.val (.ref d), .val (.ref a), .val (.int (1 : Int32)), .val (.int (4 : Int32)), .val (.int (4 : Int32))] [(.ref y)])) := fun tq kq => G445 tq (st446.trans kq)
  have f453 := ((((((((((((((((((((((((Ey.wr W202).ext E210).wr W215).ext E223).wr W228).ext E236).wr W241).ext E249).wr W254).ext E281).wr W287).ext E294).wr W301).wr W315).wr W329).wr W343).wr W357).wr W371).wr W385).wr W399).wr W413).wr W423).ext E430).wr W437)
  obtain ⟨T454, X454, e454, st454⟩ := castY X446 hx hZ hown (hw _ (List.mem_of_getElem? (i := 133) rfl)) e446 (Ins.self f453) (g := (mkF m 78 #[.val (.ref d), .val (.ref a), .val (.int (1 : Int32)), .val (.int (4 : Int32)), .val (.int (4 : Int32))] [(.ref y)])) rfl rfl (hb hby d11_78)
  have G455 : Go p e below A0 (T454.setTop (mkF m 81 #[.val (.ref d), .val (.ref a), .val (.int (1 : Int32)), .val (.int (4 : Int32)), .val (.int (4 : Int32))] [(.ref y)])) := fun tq kq => G452 tq (st454 _ kq)
  have f457 := ((((((((((((((((((((((((Fy.other W202 (Or.inl (Ne.symm hn_y))).ext E210).other W215 (Or.inl (Ne.symm hn_y))).ext E223).other W228 (Or.inl (Ne.symm hn_y))).ext E236).other W241 (Or.inl (Ne.symm hn_y))).ext E249).other W254 (Or.inl (Ne.symm hn_y))).ext E281).other W287 (Or.inl (Nat.ne_of_lt lt_y_b210))).ext E294).other W301 (Or.inl (Nat.ne_of_lt lt_y_b223))).other W315 (Or.inl (Nat.ne_of_lt lt_y_b281))).other W329 (Or.inl (Nat.ne_of_lt lt_y_b294))).other W343 (Or.inl (Nat.ne_of_lt lt_y_b281))).other W357 (Or.inl (Nat.ne_of_lt lt_y_b294))).other W371 (Or.inl (Nat.ne_of_lt lt_y_b281))).other W385 (Or.inl (Nat.ne_of_lt lt_y_b294))).other W399 (Or.inl (Nat.ne_of_lt lt_y_b281))).other W413 (Or.inl (Nat.ne_of_lt lt_y_b294))).other W423 (Or.inl (Nat.ne_of_lt lt_y_b236))).ext E430).other W437 (Or.inl (Nat.ne_of_lt lt_y_b249)))
  have f458 := ((((((((((((((((((((((((Ay.other W202 (Ne.symm hn_cy)).ext E210).other W215 (Ne.symm hn_cy)).ext E223).other W228 (Ne.symm hn_cy)).ext E236).other W241 (Ne.symm hn_cy)).ext E249).other W254 (Ne.symm hn_cy)).ext E281).other W287 (Nat.ne_of_lt lt_cy_b210)).ext E294).other W301 (Nat.ne_of_lt lt_cy_b223)).other W315 (Nat.ne_of_lt lt_cy_b281)).other W329 (Nat.ne_of_lt lt_cy_b294)).other W343 (Nat.ne_of_lt lt_cy_b281)).other W357 (Nat.ne_of_lt lt_cy_b294)).other W371 (Nat.ne_of_lt lt_cy_b281)).other W385 (Nat.ne_of_lt lt_cy_b294)).other W399 (Nat.ne_of_lt lt_cy_b281)).other W413 (Nat.ne_of_lt lt_cy_b294)).other W423 (Nat.ne_of_lt lt_cy_b236)).ext E430).other W437 (Nat.ne_of_lt lt_cy_b249))
  obtain ⟨cq456, kq456, q456a, q456b, q456c⟩ := isOf hZ e454 f453
  obtain ⟨_, _, ⟨T456, L456, k456, n456⟩, -, X456, ⟨Lc456, hQ456, l456, y456, z456⟩, st456⟩ := X454.virtualBack hx (y := (⟨"com/example/ludarc/ludarc/engine/Variable", "size", "()I"⟩ : MethodName)) (z := (⟨"com/example/ludarc/ludarc/engine/Variable", "size", "()I"⟩ : MethodName)) hown (mvT hZ (hw _ (List.mem_of_getElem? (i := 135) rfl))) (mvT hZ (hw _ (List.mem_of_getElem? (i := 136) rfl))) (notFace_of_selects (args := #[]) (mvT hZ (hw _ (List.mem_of_getElem? (i := 138) rfl)))) (mvT hZ (hw _ (List.mem_of_getElem? (i := 138) rfl))) (mvT hZ (hw _ (List.mem_of_getElem? (i := 137) rfl))) (by decide) (backOf (W := 0) (rm17 l Z a0 hw [] y cy (2 : Int32) ky vsy h437 n0 f451 f457 f458) hZ (hw _ (List.mem_of_getElem? (i := 139) rfl)) (hw _ (List.mem_of_getElem? (i := 28) rfl)) (by decide) (by decide)) q456a q456c (g := (mkF m 81 #[.val (.ref d), .val (.ref a), .val (.int (1 : Int32)), .val (.int (4 : Int32)), .val (.int (4 : Int32))] [(.ref y)])) rfl (by rw [hml]; rfl) (Steps.refl _) (argsL := []) (rest := []) (lenOf pd_7 rfl) rfl (by show 2 * 0 + _ ≤ _; exact Nat.le_of_eq rfl) (hb hby d11_81) (fun _ _ => ⟨rfl, e454, (by decide : 7 + 0 ≤ _), (by decide : 20 + 0 ≤ _)⟩)
  dsimp only [Pt.U, Pt.locs, Pt.cells, Pt.slots] at X456 l456 y456 z456 st456 hQ456
  obtain rfl : k456 = 7 := y456
  obtain rfl : n456 = 20 := z456
  obtain ⟨rfl, N456q, e456⟩ := hQ456
  have N456 : Fr n0 L456 := by rw [l456]; exact Fr.app N446 N456q
  have G459 : Go p e below A0 (T456.setTop (mkF m 84 #[.val (.ref d), .val (.ref a), .val (.int (1 : Int32)), .val (.int (4 : Int32)), .val (.int (4 : Int32))] [(.int (2 : Int32))])) := fun tq kq => G455 tq (st456.trans kq)
  have G460 : Go p e below A0 (T456.setTop (mkF m 86 #[.val (.ref d), .val (.ref a), .val (.int (1 : Int32)), .val (.int (2 : Int32)), .val (.int (4 : Int32))] [(.ref d)])) := fun tq kq => G459 tq (by
    refine XS.istoreN X456.here hx rfl (hb hby d11_84) rfl (l' := #[.val (.ref d), .val (.ref a), .val (.int (1 : Int32)), .val (.int (2 : Int32)), .val (.int (4 : Int32))]) rfl ?_
    show Steps p.tables e below (T456.setTop (mkF m 85 #[.val (.ref d), .val (.ref a), .val (.int (1 : Int32)), .val (.int (2 : Int32)), .val (.int (4 : Int32))] [])) _
    refine XS.aloadN X456.here hx rfl (hb hby d11_85) rfl rfl ?_
    show Steps p.tables e below (T456.setTop (mkF m 86 #[.val (.ref d), .val (.ref a), .val (.int (1 : Int32)), .val (.int (2 : Int32)), .val (.int (4 : Int32))] [(.ref d)])) _
    exact kq)
  obtain ⟨T461, X461, e461, st461⟩ := getF X456 hx hZ hown (host := "") (Or.inl (hw _ (List.mem_of_getElem? (i := 104) rfl))) Via.refl e456 f440 (g := (mkF m 86 #[.val (.ref d), .val (.ref a), .val (.int (1 : Int32)), .val (.int (2 : Int32)), .val (.int (4 : Int32))] [(.ref d)])) rfl rfl (hb hby d11_86)
  have G462 : Go p e below A0 (T461.setTop (mkF m 89 #[.val (.ref d), .val (.ref a), .val (.int (1 : Int32)), .val (.int (2 : Int32)), .val (.int (4 : Int32))] [(.ref b210)])) := fun tq kq => G460 tq (st461 _ kq)
  have G463 : Go p e below A0 (T461.setTop (mkF m 91 #[.val (.ref d), .val (.ref a), .val (.int (1 : Int32)), .val (.int (2 : Int32)), .val (.int (4 : Int32))] [(.int (2 : Int32)), (.int (1 : Int32)), (.ref b210)])) := fun tq kq => G462 tq (by
    refine XS.iloadN X461.here hx rfl (hb hby d11_89) rfl ?_
    show Steps p.tables e below (T461.setTop (mkF m 90 #[.val (.ref d), .val (.ref a), .val (.int (1 : Int32)), .val (.int (2 : Int32)), .val (.int (4 : Int32))] [(.int (1 : Int32)), (.ref b210)])) _
    refine XS.iloadN X461.here hx rfl (hb hby d11_90) rfl ?_
    show Steps p.tables e below (T461.setTop (mkF m 91 #[.val (.ref d), .val (.ref a), .val (.int (1 : Int32)), .val (.int (2 : Int32)), .val (.int (4 : Int32))] [(.int (2 : Int32)), (.int (1 : Int32)), (.ref b210)])) _
    exact kq)
  obtain ⟨T464, h464, k464, X464, e464, E464, A464, Ex464, st464⟩ := newPE X461 hx hZ (hw _ (List.mem_of_getElem? (i := 37) rfl)) e461 (g := (mkF m 91 #[.val (.ref d), .val (.ref a), .val (.int (1 : Int32)), .val (.int (2 : Int32)), .val (.int (4 : Int32))] [(.int (2 : Int32)), (.int (1 : Int32)), (.ref b210)])) rfl (hb hby d11_91) rfl (by decide) (cap := 2) (by decide) (by decide) (by decide) (by decide) (ad := "[I") (by decide)
  obtain ⟨b464, g464⟩ : ∃ z, z = h437.size := ⟨_, rfl⟩
  rw [← g464] at A464 st464 Ex464
  have f465 := (Nat.le_trans (Nat.le_trans f432 E430.1) (Keep.of_wr W437).1)
  have sz_b464 : h0.size ≤ b464 := Nat.le_trans f465 (Nat.le_of_eq g464.symm)
  have g_b464 : n0 ≤ b464 := Nat.le_trans f451 (Nat.le_of_eq g464.symm)
  have lt_d_b464 : d < b464 := Nat.lt_of_lt_of_le ((((((((((((((((f252.wr W254).ext E281).wr W287).ext E294).wr W301).wr W315).wr W329).wr W343).wr W357).wr W371).wr W385).wr W399).wr W413).wr W423).ext E430).wr W437).lt (Nat.le_of_eq g464.symm)
  have lt_a_b464 : a < b464 := Nat.lt_of_lt_of_le f447.lt (Nat.le_of_eq g464.symm)
  have lt_b_b464 : b < b464 := Nat.lt_of_lt_of_le f450.lt (Nat.le_of_eq g464.symm)
  have lt_x_b464 : x < b464 := Nat.lt_of_lt_of_le (((((((((((((((f270.ext E281).wr W287).ext E294).wr W301).wr W315).wr W329).wr W343).wr W357).wr W371).wr W385).wr W399).wr W413).wr W423).ext E430).wr W437).lt (Nat.le_of_eq g464.symm)
  have lt_cx_b464 : cx < b464 := Nat.lt_of_lt_of_le (((((((((((((((f275.ext E281).other W287 (Nat.ne_of_lt lt_cx_b210)).ext E294).other W301 (Nat.ne_of_lt lt_cx_b223)).other W315 (Nat.ne_of_lt lt_cx_b281)).other W329 (Nat.ne_of_lt lt_cx_b294)).other W343 (Nat.ne_of_lt lt_cx_b281)).other W357 (Nat.ne_of_lt lt_cx_b294)).other W371 (Nat.ne_of_lt lt_cx_b281)).other W385 (Nat.ne_of_lt lt_cx_b294)).other W399 (Nat.ne_of_lt lt_cx_b281)).other W413 (Nat.ne_of_lt lt_cx_b294)).other W423 (Nat.ne_of_lt lt_cx_b236)).ext E430).other W437 (Nat.ne_of_lt lt_cx_b249)).lt (Nat.le_of_eq g464.symm)
  have lt_y_b464 : y < b464 := Nat.lt_of_lt_of_le f453.lt (Nat.le_of_eq g464.symm)
  have lt_cy_b464 : cy < b464 := Nat.lt_of_lt_of_le f458.lt (Nat.le_of_eq g464.symm)
  have lt_b210_b464 : b210 < b464 := Nat.lt_of_lt_of_le f443.lt (Nat.le_of_eq g464.symm)
  have lt_b223_b464 : b223 < b464 := Nat.lt_of_lt_of_le ((((f406.other W413 (Nat.ne_of_lt lt_b223_b294)).other W423 (Nat.ne_of_lt lt_b223_b236)).ext E430).other W437 (Nat.ne_of_lt lt_b223_b249)).lt (Nat.le_of_eq g464.symm)
  have lt_b236_b464 : b236 < b464 := Nat.lt_of_lt_of_le ((V423'.ext E430).other W437 (Nat.ne_of_lt lt_b236_b249)).lt (Nat.le_of_eq g464.symm)
  have lt_b249_b464 : b249 < b464 := Nat.lt_of_lt_of_le V437'.lt (Nat.le_of_eq g464.symm)
  have lt_b281_b464 : b281 < b464 := Nat.lt_of_lt_of_le ((((V399'.other W413 (Nat.ne_of_lt lt_b281_b294)).other W423 (Ne.symm (Nat.ne_of_lt lt_b236_b281))).ext E430).other W437 (Ne.symm (Nat.ne_of_lt lt_b249_b281))).lt (Nat.le_of_eq g464.symm)
  have lt_b294_b464 : b294 < b464 := Nat.lt_of_lt_of_le (((V413'.other W423 (Ne.symm (Nat.ne_of_lt lt_b236_b294))).ext E430).other W437 (Ne.symm (Nat.ne_of_lt lt_b249_b294))).lt (Nat.le_of_eq g464.symm)
  have lt_b430_b464 : b430 < b464 := Nat.lt_of_lt_of_le (V430.other W437 (Ne.symm (Nat.ne_of_lt lt_b249_b430))).lt (Nat.le_of_eq g464.symm)
  have V464 : Arv Z h464 b464 k464 .int (2 : Int32) [(.int (0 : Int32)), (.int (0 : Int32))] (.int (0 : Int32)) := (Arv.new A464 (by decide)).pad (pad_rep [] (.int (0 : Int32)) 2)
  have G466 : Go p e below A0 (T464.setTop (mkF m 93 #[.val (.ref d), .val (.ref a), .val (.int (1 : Int32)), .val (.int (2 : Int32)), .val (.int (4 : Int32))] [(.ref b464), (.int (1 : Int32)), (.ref b210)])) := fun tq kq => G463 tq (st464 _ kq)
  have f467 := (f443.ext E464)
  obtain ⟨cl468, Ar468, q468, S468, M468, H468, Gf468⟩ := id f467
  have hi469 : ¬ ((1 : Int32) < 0 ∨ cl468.slots.size ≤ ((1 : Int32)).toNatClampNeg) := (inb_of S468 ⟨by decide, by decide⟩)
  obtain ⟨T470, h470, X470, e470, W470, st470⟩ := stR X464 hx hZ e464 Ar468 (j := (1 : Int32)) hi469 rfl (Sto.ofVA Ar468 q468 O210 (Ins.self Ex464)) (g := (mkF m 93 #[.val (.ref d), .val (.ref a), .val (.int (1 : Int32)), .val (.int (2 : Int32)), .val (.int (4 : Int32))] [(.ref b464), (.int (1 : Int32)), (.ref b210)])) rfl rfl (hb hby d11_93)
  have N470 := Fr.snoc X470 N456 g_b210
  have V470 := Arv.set Ar468 q468 S468 M468 H468 Gf468 rfl W470 1 rfl (Nat.le_of_ble_eq_true rfl)
  have V470' : Arv Z h470 b210 k210 (.array .int) (2 : Int32) [(.ref b281), (.ref b464)] .null := by exact V470
  have G471 : Go p e below A0 (T470.setTop (mkF m 94 #[.val (.ref d), .val (.ref a), .val (.int (1 : Int32)), .val (.int (2 : Int32)), .val (.int (4 : Int32))] [])) := fun tq kq => G466 tq (st470 _ kq)
  have G472 : Go p e below A0 (T470.setTop (mkF m 95 #[.val (.ref d), .val (.ref a), .val (.int (1 : Int32)), .val (.int (2 : Int32)), .val (.int (4 : Int32))] [(.ref d)])) := fun tq kq => G471 tq (by
    refine XS.aloadN X470.here hx rfl (hb hby d11_94) rfl rfl ?_
    show Steps p.tables e below (T470.setTop (mkF m 95 #[.val (.ref d), .val (.ref a), .val (.int (1 : Int32)), .val (.int (2 : Int32)), .val (.int (4 : Int32))] [(.ref d)])) _
    exact kq)
  have f473 := ((((((f402.other W413 (Or.inl (Nat.ne_of_lt lt_d_b294))).other W423 (Or.inl (Nat.ne_of_lt lt_d_b236))).ext E430).other W437 (Or.inl (Nat.ne_of_lt lt_d_b249))).ext E464).other W470 (Or.inl (Nat.ne_of_lt lt_d_b210)))
  obtain ⟨T474, X474, e474, st474⟩ := getF X470 hx hZ hown (host := "") (Or.inl (hw _ (List.mem_of_getElem? (i := 106) rfl))) Via.refl e470 f473 (g := (mkF m 95 #[.val (.ref d), .val (.ref a), .val (.int (1 : Int32)), .val (.int (2 : Int32)), .val (.int (4 : Int32))] [(.ref d)])) rfl rfl (hb hby d11_95)
  have G475 : Go p e below A0 (T474.setTop (mkF m 98 #[.val (.ref d), .val (.ref a), .val (.int (1 : Int32)), .val (.int (2 : Int32)), .val (.int (4 : Int32))] [(.ref b223)])) := fun tq kq => G472 tq (st474 _ kq)
  have G476 : Go p e below A0 (T474.setTop (mkF m 100 #[.val (.ref d), .val (.ref a), .val (.int (1 : Int32)), .val (.int (2 : Int32)), .val (.int (4 : Int32))] [(.int (2 : Int32)), (.int (1 : Int32)), (.ref b223)])) := fun tq kq => G475 tq (by
    refine XS.iloadN X474.here hx rfl (hb hby d11_98) rfl ?_
    show Steps p.tables e below (T474.setTop (mkF m 99 #[.val (.ref d), .val (.ref a), .val (.int (1 : Int32)), .val (.int (2 : Int32)), .val (.int (4 : Int32))] [(.int (1 : Int32)), (.ref b223)])) _
    refine XS.iloadN X474.here hx rfl (hb hby d11_99) rfl ?_
    show Steps p.tables e below (T474.setTop (mkF m 100 #[.val (.ref d), .val (.ref a), .val (.int (1 : Int32)), .val (.int (2 : Int32)), .val (.int (4 : Int32))] [(.int (2 : Int32)), (.int (1 : Int32)), (.ref b223)])) _
    exact kq)
  have f478 := (Nat.le_trans (Nat.le_trans f451 E464.1) (Keep.of_wr W470).1)
  obtain ⟨T477, h477, k477, X477, e477, E477, A477, Ex477, st477⟩ := newPE X474 hx hZ (hw _ (List.mem_of_getElem? (i := 37) rfl)) e474 (g := (mkF m 100 #[.val (.ref d), .val (.ref a), .val (.int (1 : Int32)), .val (.int (2 : Int32)), .val (.int (4 : Int32))] [(.int (2 : Int32)), (.int (1 : Int32)), (.ref b223)])) rfl (hb hby d11_100) rfl (by decide) (cap := 2) (by decide) (by decide) (by decide) (by decide) (ad := "[I") (by decide)
  obtain ⟨b477, g477⟩ : ∃ z, z = h470.size := ⟨_, rfl⟩
  rw [← g477] at A477 st477 Ex477
  have f479 := (Nat.le_trans (Nat.le_trans f465 E464.1) (Keep.of_wr W470).1)
  have sz_b477 : h0.size ≤ b477 := Nat.le_trans f479 (Nat.le_of_eq g477.symm)
  have g_b477 : n0 ≤ b477 := Nat.le_trans f478 (Nat.le_of_eq g477.symm)
  have lt_d_b477 : d < b477 := Nat.lt_of_lt_of_le ((((((((((((((((((f252.wr W254).ext E281).wr W287).ext E294).wr W301).wr W315).wr W329).wr W343).wr W357).wr W371).wr W385).wr W399).wr W413).wr W423).ext E430).wr W437).ext E464).wr W470).lt (Nat.le_of_eq g477.symm)
  have lt_a_b477 : a < b477 := Nat.lt_of_lt_of_le ((f447.ext E464).wr W470).lt (Nat.le_of_eq g477.symm)
  have lt_b_b477 : b < b477 := Nat.lt_of_lt_of_le ((f450.ext E464).other W470 (Nat.ne_of_lt lt_b_b210)).lt (Nat.le_of_eq g477.symm)
  have lt_x_b477 : x < b477 := Nat.lt_of_lt_of_le (((((((((((((((((f270.ext E281).wr W287).ext E294).wr W301).wr W315).wr W329).wr W343).wr W357).wr W371).wr W385).wr W399).wr W413).wr W423).ext E430).wr W437).ext E464).wr W470).lt (Nat.le_of_eq g477.symm)
  have lt_cx_b477 : cx < b477 := Nat.lt_of_lt_of_le (((((((((((((((((f275.ext E281).other W287 (Nat.ne_of_lt lt_cx_b210)).ext E294).other W301 (Nat.ne_of_lt lt_cx_b223)).other W315 (Nat.ne_of_lt lt_cx_b281)).other W329 (Nat.ne_of_lt lt_cx_b294)).other W343 (Nat.ne_of_lt lt_cx_b281)).other W357 (Nat.ne_of_lt lt_cx_b294)).other W371 (Nat.ne_of_lt lt_cx_b281)).other W385 (Nat.ne_of_lt lt_cx_b294)).other W399 (Nat.ne_of_lt lt_cx_b281)).other W413 (Nat.ne_of_lt lt_cx_b294)).other W423 (Nat.ne_of_lt lt_cx_b236)).ext E430).other W437 (Nat.ne_of_lt lt_cx_b249)).ext E464).other W470 (Nat.ne_of_lt lt_cx_b210)).lt (Nat.le_of_eq g477.symm)
  have lt_y_b477 : y < b477 := Nat.lt_of_lt_of_le ((f453.ext E464).wr W470).lt (Nat.le_of_eq g477.symm)
  have lt_cy_b477 : cy < b477 := Nat.lt_of_lt_of_le ((f458.ext E464).other W470 (Nat.ne_of_lt lt_cy_b210)).lt (Nat.le_of_eq g477.symm)
  have lt_b210_b477 : b210 < b477 := Nat.lt_of_lt_of_le V470'.lt (Nat.le_of_eq g477.symm)
  have lt_b223_b477 : b223 < b477 := Nat.lt_of_lt_of_le ((((((f406.other W413 (Nat.ne_of_lt lt_b223_b294)).other W423 (Nat.ne_of_lt lt_b223_b236)).ext E430).other W437 (Nat.ne_of_lt lt_b223_b249)).ext E464).other W470 (Ne.symm (Nat.ne_of_lt lt_b210_b223))).lt (Nat.le_of_eq g477.symm)
  have lt_b236_b477 : b236 < b477 := Nat.lt_of_lt_of_le ((((V423'.ext E430).other W437 (Nat.ne_of_lt lt_b236_b249)).ext E464).other W470 (Ne.symm (Nat.ne_of_lt lt_b210_b236))).lt (Nat.le_of_eq g477.symm)
  have lt_b249_b477 : b249 < b477 := Nat.lt_of_lt_of_le ((V437'.ext E464).other W470 (Ne.symm (Nat.ne_of_lt lt_b210_b249))).lt (Nat.le_of_eq g477.symm)
  have lt_b281_b477 : b281 < b477 := Nat.lt_of_lt_of_le ((((((V399'.other W413 (Nat.ne_of_lt lt_b281_b294)).other W423 (Ne.symm (Nat.ne_of_lt lt_b236_b281))).ext E430).other W437 (Ne.symm (Nat.ne_of_lt lt_b249_b281))).ext E464).other W470 (Ne.symm (Nat.ne_of_lt lt_b210_b281))).lt (Nat.le_of_eq g477.symm)
  have lt_b294_b477 : b294 < b477 := Nat.lt_of_lt_of_le (((((V413'.other W423 (Ne.symm (Nat.ne_of_lt lt_b236_b294))).ext E430).other W437 (Ne.symm (Nat.ne_of_lt lt_b249_b294))).ext E464).other W470 (Ne.symm (Nat.ne_of_lt lt_b210_b294))).lt (Nat.le_of_eq g477.symm)
  have lt_b430_b477 : b430 < b477 := Nat.lt_of_lt_of_le (((V430.other W437 (Ne.symm (Nat.ne_of_lt lt_b249_b430))).ext E464).other W470 (Ne.symm (Nat.ne_of_lt lt_b210_b430))).lt (Nat.le_of_eq g477.symm)
  have lt_b464_b477 : b464 < b477 := Nat.lt_of_lt_of_le (V464.other W470 (Ne.symm (Nat.ne_of_lt lt_b210_b464))).lt (Nat.le_of_eq g477.symm)
  have V477 : Arv Z h477 b477 k477 .int (2 : Int32) [(.int (0 : Int32)), (.int (0 : Int32))] (.int (0 : Int32)) := (Arv.new A477 (by decide)).pad (pad_rep [] (.int (0 : Int32)) 2)
  have G480 : Go p e below A0 (T477.setTop (mkF m 102 #[.val (.ref d), .val (.ref a), .val (.int (1 : Int32)), .val (.int (2 : Int32)), .val (.int (4 : Int32))] [(.ref b477), (.int (1 : Int32)), (.ref b223)])) := fun tq kq => G476 tq (st477 _ kq)
  have f481 := (((((((f406.other W413 (Nat.ne_of_lt lt_b223_b294)).other W423 (Nat.ne_of_lt lt_b223_b236)).ext E430).other W437 (Nat.ne_of_lt lt_b223_b249)).ext E464).other W470 (Ne.symm (Nat.ne_of_lt lt_b210_b223))).ext E477)
  obtain ⟨cl482, Ar482, q482, S482, M482, H482, Gf482⟩ := id f481
  have hi483 : ¬ ((1 : Int32) < 0 ∨ cl482.slots.size ≤ ((1 : Int32)).toNatClampNeg) := (inb_of S482 ⟨by decide, by decide⟩)
  obtain ⟨T484, h484, X484, e484, W484, st484⟩ := stR X477 hx hZ e477 Ar482 (j := (1 : Int32)) hi483 rfl (Sto.ofVA Ar482 q482 O223 (Ins.self Ex477)) (g := (mkF m 102 #[.val (.ref d), .val (.ref a), .val (.int (1 : Int32)), .val (.int (2 : Int32)), .val (.int (4 : Int32))] [(.ref b477), (.int (1 : Int32)), (.ref b223)])) rfl rfl (hb hby d11_102)
  have N484 := Fr.snoc X484 N470 g_b223
  have V484 := Arv.set Ar482 q482 S482 M482 H482 Gf482 rfl W484 1 rfl (Nat.le_of_ble_eq_true rfl)
  have V484' : Arv Z h484 b223 k223 (.array .int) (2 : Int32) [(.ref b294), (.ref b477)] .null := by exact V484
  have G485 : Go p e below A0 (T484.setTop (mkF m 103 #[.val (.ref d), .val (.ref a), .val (.int (1 : Int32)), .val (.int (2 : Int32)), .val (.int (4 : Int32))] [])) := fun tq kq => G480 tq (st484 _ kq)
  have G486 : Go p e below A0 (T484.setTop (mkF m 113 #[.val (.ref d), .val (.ref a), .val (.int (1 : Int32)), .val (.int (2 : Int32)), .val (.int (0 : Int32))] [(.ref d)])) := fun tq kq => G485 tq (by
    refine XS.iconst X484.here hx rfl (hb hby d11_103) ?_
    show Steps p.tables e below (T484.setTop (mkF m 104 #[.val (.ref d), .val (.ref a), .val (.int (1 : Int32)), .val (.int (2 : Int32)), .val (.int (4 : Int32))] [(.int (0 : Int32))])) _
    refine XS.istore X484.here hx rfl (hb hby d11_104) rfl (l' := #[.val (.ref d), .val (.ref a), .val (.int (1 : Int32)), .val (.int (2 : Int32)), .val (.int (0 : Int32))]) rfl ?_
    show Steps p.tables e below (T484.setTop (mkF m 106 #[.val (.ref d), .val (.ref a), .val (.int (1 : Int32)), .val (.int (2 : Int32)), .val (.int (0 : Int32))] [])) _
    refine XS.iload X484.here hx rfl (hb hby d11_106) rfl ?_
    show Steps p.tables e below (T484.setTop (mkF m 108 #[.val (.ref d), .val (.ref a), .val (.int (1 : Int32)), .val (.int (2 : Int32)), .val (.int (0 : Int32))] [(.int (0 : Int32))])) _
    refine XS.iloadN X484.here hx rfl (hb hby d11_108) rfl ?_
    show Steps p.tables e below (T484.setTop (mkF m 109 #[.val (.ref d), .val (.ref a), .val (.int (1 : Int32)), .val (.int (2 : Int32)), .val (.int (0 : Int32))] [(.int (2 : Int32)), (.int (0 : Int32))])) _
    refine XS.icmpNo X484.here hx rfl (hb hby d11_109) rfl (by decide) ?_
    show Steps p.tables e below (T484.setTop (mkF m 112 #[.val (.ref d), .val (.ref a), .val (.int (1 : Int32)), .val (.int (2 : Int32)), .val (.int (0 : Int32))] [])) _
    refine XS.aloadN X484.here hx rfl (hb hby d11_112) rfl rfl ?_
    show Steps p.tables e below (T484.setTop (mkF m 113 #[.val (.ref d), .val (.ref a), .val (.int (1 : Int32)), .val (.int (2 : Int32)), .val (.int (0 : Int32))] [(.ref d)])) _
    exact kq)
  have f487 := ((((f440.ext E464).other W470 (Or.inl (Nat.ne_of_lt lt_d_b210))).ext E477).other W484 (Or.inl (Nat.ne_of_lt lt_d_b223)))
  obtain ⟨T488, X488, e488, st488⟩ := getF X484 hx hZ hown (host := "") (Or.inl (hw _ (List.mem_of_getElem? (i := 104) rfl))) Via.refl e484 f487 (g := (mkF m 113 #[.val (.ref d), .val (.ref a), .val (.int (1 : Int32)), .val (.int (2 : Int32)), .val (.int (0 : Int32))] [(.ref d)])) rfl rfl (hb hby d11_113)
  have G489 : Go p e below A0 (T488.setTop (mkF m 116 #[.val (.ref d), .val (.ref a), .val (.int (1 : Int32)), .val (.int (2 : Int32)), .val (.int (0 : Int32))] [(.ref b210)])) := fun tq kq => G486 tq (st488 _ kq)
  have G490 : Go p e below A0 (T488.setTop (mkF m 117 #[.val (.ref d), .val (.ref a), .val (.int (1 : Int32)), .val (.int (2 : Int32)), .val (.int (0 : Int32))] [(.int (1 : Int32)), (.ref b210)])) := fun tq kq => G489 tq (by
    refine XS.iloadN X488.here hx rfl (hb hby d11_116) rfl ?_
    show Steps p.tables e below (T488.setTop (mkF m 117 #[.val (.ref d), .val (.ref a), .val (.int (1 : Int32)), .val (.int (2 : Int32)), .val (.int (0 : Int32))] [(.int (1 : Int32)), (.ref b210)])) _
    exact kq)
  have f491 := ((V470'.ext E477).other W484 (Nat.ne_of_lt lt_b210_b223))
  obtain ⟨cl492, Ar492, q492, S492, M492, H492, Gf492⟩ := id f491
  have hi493 : ¬ ((1 : Int32) < 0 ∨ cl492.slots.size ≤ ((1 : Int32)).toNatClampNeg) := (inb_of S492 ⟨by decide, by decide⟩)
  have G494 : Go p e below A0 (T488.setTop (mkF m 122 #[.val (.ref d), .val (.ref a), .val (.int (1 : Int32)), .val (.int (2 : Int32)), .val (.int (0 : Int32))] [(.int (0 : Int32)), (.int (0 : Int32)), (.ref b464)])) := fun tq kq => G490 tq (by
    refine X488.aaload hx (j := (1 : Int32)) (v := (.ref b464)) (by rw [e488]; exact Ar492.1) (State.isArrayOf_alike hZ.alike Ar492.2.1) rfl Ar492.2.2 hi493 (H492.at hi493 rfl) (g := (mkF m 117 #[.val (.ref d), .val (.ref a), .val (.int (1 : Int32)), .val (.int (2 : Int32)), .val (.int (0 : Int32))] [(.int (1 : Int32)), (.ref b210)])) rfl rfl (hb hby d11_117) _ ?_
    show Steps p.tables e below (T488.setTop (mkF m 118 #[.val (.ref d), .val (.ref a), .val (.int (1 : Int32)), .val (.int (2 : Int32)), .val (.int (0 : Int32))] [(.ref b464)])) _
    refine XS.iload X488.here hx rfl (hb hby d11_118) rfl ?_
    show Steps p.tables e below (T488.setTop (mkF m 120 #[.val (.ref d), .val (.ref a), .val (.int (1 : Int32)), .val (.int (2 : Int32)), .val (.int (0 : Int32))] [(.int (0 : Int32)), (.ref b464)])) _
    refine XS.iload X488.here hx rfl (hb hby d11_120) rfl ?_
    show Steps p.tables e below (T488.setTop (mkF m 122 #[.val (.ref d), .val (.ref a), .val (.int (1 : Int32)), .val (.int (2 : Int32)), .val (.int (0 : Int32))] [(.int (0 : Int32)), (.int (0 : Int32)), (.ref b464)])) _
    exact kq)
  have f495 := (((V464.other W470 (Ne.symm (Nat.ne_of_lt lt_b210_b464))).ext E477).other W484 (Ne.symm (Nat.ne_of_lt lt_b223_b464)))
  obtain ⟨cl496, Ar496, q496, S496, M496, H496, Gf496⟩ := id f495
  have hi497 : ¬ ((0 : Int32) < 0 ∨ cl496.slots.size ≤ ((0 : Int32)).toNatClampNeg) := (inb_of S496 ⟨by decide, by decide⟩)
  obtain ⟨T498, h498, X498, e498, W498, st498⟩ := stI X488 hx hZ e488 Ar496 (j := (0 : Int32)) hi497 (g := (mkF m 122 #[.val (.ref d), .val (.ref a), .val (.int (1 : Int32)), .val (.int (2 : Int32)), .val (.int (0 : Int32))] [(.int (0 : Int32)), (.int (0 : Int32)), (.ref b464)])) rfl rfl (hb hby d11_122)
  have N498 := Fr.snoc X498 N484 g_b464
  have V498 := Arv.set Ar496 q496 S496 M496 H496 Gf496 rfl W498 0 rfl (Nat.le_of_ble_eq_true rfl)
  have V498' : Arv Z h498 b464 k464 .int (2 : Int32) [(.int (0 : Int32)), (.int (0 : Int32))] (.int (0 : Int32)) := by exact V498
  have G499 : Go p e below A0 (T498.setTop (mkF m 123 #[.val (.ref d), .val (.ref a), .val (.int (1 : Int32)), .val (.int (2 : Int32)), .val (.int (0 : Int32))] [])) := fun tq kq => G494 tq (st498 _ kq)
  have G500 : Go p e below A0 (T498.setTop (mkF m 124 #[.val (.ref d), .val (.ref a), .val (.int (1 : Int32)), .val (.int (2 : Int32)), .val (.int (0 : Int32))] [(.ref d)])) := fun tq kq => G499 tq (by
    refine XS.aloadN X498.here hx rfl (hb hby d11_123) rfl rfl ?_
    show Steps p.tables e below (T498.setTop (mkF m 124 #[.val (.ref d), .val (.ref a), .val (.int (1 : Int32)), .val (.int (2 : Int32)), .val (.int (0 : Int32))] [(.ref d)])) _
    exact kq)
  have f501 := (((f473.ext E477).other W484 (Or.inl (Nat.ne_of_lt lt_d_b223))).other W498 (Or.inl (Nat.ne_of_lt lt_d_b464)))
  obtain ⟨T502, X502, e502, st502⟩ := getF X498 hx hZ hown (host := "") (Or.inl (hw _ (List.mem_of_getElem? (i := 106) rfl))) Via.refl e498 f501 (g := (mkF m 124 #[.val (.ref d), .val (.ref a), .val (.int (1 : Int32)), .val (.int (2 : Int32)), .val (.int (0 : Int32))] [(.ref d)])) rfl rfl (hb hby d11_124)
  have G503 : Go p e below A0 (T502.setTop (mkF m 127 #[.val (.ref d), .val (.ref a), .val (.int (1 : Int32)), .val (.int (2 : Int32)), .val (.int (0 : Int32))] [(.ref b223)])) := fun tq kq => G500 tq (st502 _ kq)
  have G504 : Go p e below A0 (T502.setTop (mkF m 128 #[.val (.ref d), .val (.ref a), .val (.int (1 : Int32)), .val (.int (2 : Int32)), .val (.int (0 : Int32))] [(.int (1 : Int32)), (.ref b223)])) := fun tq kq => G503 tq (by
    refine XS.iloadN X502.here hx rfl (hb hby d11_127) rfl ?_
    show Steps p.tables e below (T502.setTop (mkF m 128 #[.val (.ref d), .val (.ref a), .val (.int (1 : Int32)), .val (.int (2 : Int32)), .val (.int (0 : Int32))] [(.int (1 : Int32)), (.ref b223)])) _
    exact kq)
  have f505 := (V484'.other W498 (Nat.ne_of_lt lt_b223_b464))
  obtain ⟨cl506, Ar506, q506, S506, M506, H506, Gf506⟩ := id f505
  have hi507 : ¬ ((1 : Int32) < 0 ∨ cl506.slots.size ≤ ((1 : Int32)).toNatClampNeg) := (inb_of S506 ⟨by decide, by decide⟩)
  have G508 : Go p e below A0 (T502.setTop (mkF m 133 #[.val (.ref d), .val (.ref a), .val (.int (1 : Int32)), .val (.int (2 : Int32)), .val (.int (0 : Int32))] [(.int (0 : Int32)), (.int (0 : Int32)), (.ref b477)])) := fun tq kq => G504 tq (by
    refine X502.aaload hx (j := (1 : Int32)) (v := (.ref b477)) (by rw [e502]; exact Ar506.1) (State.isArrayOf_alike hZ.alike Ar506.2.1) rfl Ar506.2.2 hi507 (H506.at hi507 rfl) (g := (mkF m 128 #[.val (.ref d), .val (.ref a), .val (.int (1 : Int32)), .val (.int (2 : Int32)), .val (.int (0 : Int32))] [(.int (1 : Int32)), (.ref b223)])) rfl rfl (hb hby d11_128) _ ?_
    show Steps p.tables e below (T502.setTop (mkF m 129 #[.val (.ref d), .val (.ref a), .val (.int (1 : Int32)), .val (.int (2 : Int32)), .val (.int (0 : Int32))] [(.ref b477)])) _
    refine XS.iload X502.here hx rfl (hb hby d11_129) rfl ?_
    show Steps p.tables e below (T502.setTop (mkF m 131 #[.val (.ref d), .val (.ref a), .val (.int (1 : Int32)), .val (.int (2 : Int32)), .val (.int (0 : Int32))] [(.int (0 : Int32)), (.ref b477)])) _
    refine XS.iload X502.here hx rfl (hb hby d11_131) rfl ?_
    show Steps p.tables e below (T502.setTop (mkF m 133 #[.val (.ref d), .val (.ref a), .val (.int (1 : Int32)), .val (.int (2 : Int32)), .val (.int (0 : Int32))] [(.int (0 : Int32)), (.int (0 : Int32)), (.ref b477)])) _
    exact kq)
  have f509 := ((V477.other W484 (Ne.symm (Nat.ne_of_lt lt_b223_b477))).other W498 (Ne.symm (Nat.ne_of_lt lt_b464_b477)))
  obtain ⟨cl510, Ar510, q510, S510, M510, H510, Gf510⟩ := id f509
  have hi511 : ¬ ((0 : Int32) < 0 ∨ cl510.slots.size ≤ ((0 : Int32)).toNatClampNeg) := (inb_of S510 ⟨by decide, by decide⟩)
  obtain ⟨T512, h512, X512, e512, W512, st512⟩ := stI X502 hx hZ e502 Ar510 (j := (0 : Int32)) hi511 (g := (mkF m 133 #[.val (.ref d), .val (.ref a), .val (.int (1 : Int32)), .val (.int (2 : Int32)), .val (.int (0 : Int32))] [(.int (0 : Int32)), (.int (0 : Int32)), (.ref b477)])) rfl rfl (hb hby d11_133)
  have N512 := Fr.snoc X512 N498 g_b477
  have V512 := Arv.set Ar510 q510 S510 M510 H510 Gf510 rfl W512 0 rfl (Nat.le_of_ble_eq_true rfl)
  have V512' : Arv Z h512 b477 k477 .int (2 : Int32) [(.int (0 : Int32)), (.int (0 : Int32))] (.int (0 : Int32)) := by exact V512
  have G513 : Go p e below A0 (T512.setTop (mkF m 134 #[.val (.ref d), .val (.ref a), .val (.int (1 : Int32)), .val (.int (2 : Int32)), .val (.int (0 : Int32))] [])) := fun tq kq => G508 tq (st512 _ kq)
  have G514 : Go p e below A0 (T512.setTop (mkF m 113 #[.val (.ref d), .val (.ref a), .val (.int (1 : Int32)), .val (.int (2 : Int32)), .val (.int (1 : Int32))] [(.ref d)])) := fun tq kq => G513 tq (by
    refine XS.iinc X512.here hx rfl (hb hby d11_134) rfl (l' := #[.val (.ref d), .val (.ref a), .val (.int (1 : Int32)), .val (.int (2 : Int32)), .val (.int ((0 : Int32) + (1 : Int32)))]) rfl ?_
    show Steps p.tables e below (T512.setTop (mkF m 137 #[.val (.ref d), .val (.ref a), .val (.int (1 : Int32)), .val (.int (2 : Int32)), .val (.int ((0 : Int32) + (1 : Int32)))] [])) _
    rw [show ((0 : Int32) + (1 : Int32)) = (1 : Int32) from (by decide : ((0 : Int32) + (1 : Int32)) = (1 : Int32))]
    show Steps p.tables e below (T512.setTop (mkF m 137 #[.val (.ref d), .val (.ref a), .val (.int (1 : Int32)), .val (.int (2 : Int32)), .val (.int (1 : Int32))] [])) _
    refine XS.goto X512.here hx rfl (pc0 := 137) (pc' := 106) rfl (hb hby d11_137) (by decide) (by decide) ?_
    show Steps p.tables e below (T512.setTop (mkF m 106 #[.val (.ref d), .val (.ref a), .val (.int (1 : Int32)), .val (.int (2 : Int32)), .val (.int (1 : Int32))] [])) _
    refine XS.iload X512.here hx rfl (hb hby d11_106) rfl ?_
    show Steps p.tables e below (T512.setTop (mkF m 108 #[.val (.ref d), .val (.ref a), .val (.int (1 : Int32)), .val (.int (2 : Int32)), .val (.int (1 : Int32))] [(.int (1 : Int32))])) _
    refine XS.iloadN X512.here hx rfl (hb hby d11_108) rfl ?_
    show Steps p.tables e below (T512.setTop (mkF m 109 #[.val (.ref d), .val (.ref a), .val (.int (1 : Int32)), .val (.int (2 : Int32)), .val (.int (1 : Int32))] [(.int (2 : Int32)), (.int (1 : Int32))])) _
    refine XS.icmpNo X512.here hx rfl (hb hby d11_109) rfl (by decide) ?_
    show Steps p.tables e below (T512.setTop (mkF m 112 #[.val (.ref d), .val (.ref a), .val (.int (1 : Int32)), .val (.int (2 : Int32)), .val (.int (1 : Int32))] [])) _
    refine XS.aloadN X512.here hx rfl (hb hby d11_112) rfl rfl ?_
    show Steps p.tables e below (T512.setTop (mkF m 113 #[.val (.ref d), .val (.ref a), .val (.int (1 : Int32)), .val (.int (2 : Int32)), .val (.int (1 : Int32))] [(.ref d)])) _
    exact kq)
  have f515 := ((f487.other W498 (Or.inl (Nat.ne_of_lt lt_d_b464))).other W512 (Or.inl (Nat.ne_of_lt lt_d_b477)))
  obtain ⟨T516, X516, e516, st516⟩ := getF X512 hx hZ hown (host := "") (Or.inl (hw _ (List.mem_of_getElem? (i := 104) rfl))) Via.refl e512 f515 (g := (mkF m 113 #[.val (.ref d), .val (.ref a), .val (.int (1 : Int32)), .val (.int (2 : Int32)), .val (.int (1 : Int32))] [(.ref d)])) rfl rfl (hb hby d11_113)
  have G517 : Go p e below A0 (T516.setTop (mkF m 116 #[.val (.ref d), .val (.ref a), .val (.int (1 : Int32)), .val (.int (2 : Int32)), .val (.int (1 : Int32))] [(.ref b210)])) := fun tq kq => G514 tq (st516 _ kq)
  have G518 : Go p e below A0 (T516.setTop (mkF m 117 #[.val (.ref d), .val (.ref a), .val (.int (1 : Int32)), .val (.int (2 : Int32)), .val (.int (1 : Int32))] [(.int (1 : Int32)), (.ref b210)])) := fun tq kq => G517 tq (by
    refine XS.iloadN X516.here hx rfl (hb hby d11_116) rfl ?_
    show Steps p.tables e below (T516.setTop (mkF m 117 #[.val (.ref d), .val (.ref a), .val (.int (1 : Int32)), .val (.int (2 : Int32)), .val (.int (1 : Int32))] [(.int (1 : Int32)), (.ref b210)])) _
    exact kq)
  have f519 := ((f491.other W498 (Nat.ne_of_lt lt_b210_b464)).other W512 (Nat.ne_of_lt lt_b210_b477))
  obtain ⟨cl520, Ar520, q520, S520, M520, H520, Gf520⟩ := id f519
  have hi521 : ¬ ((1 : Int32) < 0 ∨ cl520.slots.size ≤ ((1 : Int32)).toNatClampNeg) := (inb_of S520 ⟨by decide, by decide⟩)
  have G522 : Go p e below A0 (T516.setTop (mkF m 122 #[.val (.ref d), .val (.ref a), .val (.int (1 : Int32)), .val (.int (2 : Int32)), .val (.int (1 : Int32))] [(.int (1 : Int32)), (.int (1 : Int32)), (.ref b464)])) := fun tq kq => G518 tq (by
    refine X516.aaload hx (j := (1 : Int32)) (v := (.ref b464)) (by rw [e516]; exact Ar520.1) (State.isArrayOf_alike hZ.alike Ar520.2.1) rfl Ar520.2.2 hi521 (H520.at hi521 rfl) (g := (mkF m 117 #[.val (.ref d), .val (.ref a), .val (.int (1 : Int32)), .val (.int (2 : Int32)), .val (.int (1 : Int32))] [(.int (1 : Int32)), (.ref b210)])) rfl rfl (hb hby d11_117) _ ?_
    show Steps p.tables e below (T516.setTop (mkF m 118 #[.val (.ref d), .val (.ref a), .val (.int (1 : Int32)), .val (.int (2 : Int32)), .val (.int (1 : Int32))] [(.ref b464)])) _
    refine XS.iload X516.here hx rfl (hb hby d11_118) rfl ?_
    show Steps p.tables e below (T516.setTop (mkF m 120 #[.val (.ref d), .val (.ref a), .val (.int (1 : Int32)), .val (.int (2 : Int32)), .val (.int (1 : Int32))] [(.int (1 : Int32)), (.ref b464)])) _
    refine XS.iload X516.here hx rfl (hb hby d11_120) rfl ?_
    show Steps p.tables e below (T516.setTop (mkF m 122 #[.val (.ref d), .val (.ref a), .val (.int (1 : Int32)), .val (.int (2 : Int32)), .val (.int (1 : Int32))] [(.int (1 : Int32)), (.int (1 : Int32)), (.ref b464)])) _
    exact kq)
  have f523 := (V498'.other W512 (Nat.ne_of_lt lt_b464_b477))
  obtain ⟨cl524, Ar524, q524, S524, M524, H524, Gf524⟩ := id f523
  have hi525 : ¬ ((1 : Int32) < 0 ∨ cl524.slots.size ≤ ((1 : Int32)).toNatClampNeg) := (inb_of S524 ⟨by decide, by decide⟩)
  obtain ⟨T526, h526, X526, e526, W526, st526⟩ := stI X516 hx hZ e516 Ar524 (j := (1 : Int32)) hi525 (g := (mkF m 122 #[.val (.ref d), .val (.ref a), .val (.int (1 : Int32)), .val (.int (2 : Int32)), .val (.int (1 : Int32))] [(.int (1 : Int32)), (.int (1 : Int32)), (.ref b464)])) rfl rfl (hb hby d11_122)
  have N526 := Fr.snoc X526 N512 g_b464
  have V526 := Arv.set Ar524 q524 S524 M524 H524 Gf524 rfl W526 1 rfl (Nat.le_of_ble_eq_true rfl)
  have V526' : Arv Z h526 b464 k464 .int (2 : Int32) [(.int (0 : Int32)), (.int (1 : Int32))] (.int (0 : Int32)) := by exact V526
  have G527 : Go p e below A0 (T526.setTop (mkF m 123 #[.val (.ref d), .val (.ref a), .val (.int (1 : Int32)), .val (.int (2 : Int32)), .val (.int (1 : Int32))] [])) := fun tq kq => G522 tq (st526 _ kq)
  have G528 : Go p e below A0 (T526.setTop (mkF m 124 #[.val (.ref d), .val (.ref a), .val (.int (1 : Int32)), .val (.int (2 : Int32)), .val (.int (1 : Int32))] [(.ref d)])) := fun tq kq => G527 tq (by
    refine XS.aloadN X526.here hx rfl (hb hby d11_123) rfl rfl ?_
    show Steps p.tables e below (T526.setTop (mkF m 124 #[.val (.ref d), .val (.ref a), .val (.int (1 : Int32)), .val (.int (2 : Int32)), .val (.int (1 : Int32))] [(.ref d)])) _
    exact kq)
  have f529 := ((f501.other W512 (Or.inl (Nat.ne_of_lt lt_d_b477))).other W526 (Or.inl (Nat.ne_of_lt lt_d_b464)))
  obtain ⟨T530, X530, e530, st530⟩ := getF X526 hx hZ hown (host := "") (Or.inl (hw _ (List.mem_of_getElem? (i := 106) rfl))) Via.refl e526 f529 (g := (mkF m 124 #[.val (.ref d), .val (.ref a), .val (.int (1 : Int32)), .val (.int (2 : Int32)), .val (.int (1 : Int32))] [(.ref d)])) rfl rfl (hb hby d11_124)
  have G531 : Go p e below A0 (T530.setTop (mkF m 127 #[.val (.ref d), .val (.ref a), .val (.int (1 : Int32)), .val (.int (2 : Int32)), .val (.int (1 : Int32))] [(.ref b223)])) := fun tq kq => G528 tq (st530 _ kq)
  have G532 : Go p e below A0 (T530.setTop (mkF m 128 #[.val (.ref d), .val (.ref a), .val (.int (1 : Int32)), .val (.int (2 : Int32)), .val (.int (1 : Int32))] [(.int (1 : Int32)), (.ref b223)])) := fun tq kq => G531 tq (by
    refine XS.iloadN X530.here hx rfl (hb hby d11_127) rfl ?_
    show Steps p.tables e below (T530.setTop (mkF m 128 #[.val (.ref d), .val (.ref a), .val (.int (1 : Int32)), .val (.int (2 : Int32)), .val (.int (1 : Int32))] [(.int (1 : Int32)), (.ref b223)])) _
    exact kq)
  have f533 := ((f505.other W512 (Nat.ne_of_lt lt_b223_b477)).other W526 (Nat.ne_of_lt lt_b223_b464))
  obtain ⟨cl534, Ar534, q534, S534, M534, H534, Gf534⟩ := id f533
  have hi535 : ¬ ((1 : Int32) < 0 ∨ cl534.slots.size ≤ ((1 : Int32)).toNatClampNeg) := (inb_of S534 ⟨by decide, by decide⟩)
  have G536 : Go p e below A0 (T530.setTop (mkF m 133 #[.val (.ref d), .val (.ref a), .val (.int (1 : Int32)), .val (.int (2 : Int32)), .val (.int (1 : Int32))] [(.int (1 : Int32)), (.int (1 : Int32)), (.ref b477)])) := fun tq kq => G532 tq (by
    refine X530.aaload hx (j := (1 : Int32)) (v := (.ref b477)) (by rw [e530]; exact Ar534.1) (State.isArrayOf_alike hZ.alike Ar534.2.1) rfl Ar534.2.2 hi535 (H534.at hi535 rfl) (g := (mkF m 128 #[.val (.ref d), .val (.ref a), .val (.int (1 : Int32)), .val (.int (2 : Int32)), .val (.int (1 : Int32))] [(.int (1 : Int32)), (.ref b223)])) rfl rfl (hb hby d11_128) _ ?_
    show Steps p.tables e below (T530.setTop (mkF m 129 #[.val (.ref d), .val (.ref a), .val (.int (1 : Int32)), .val (.int (2 : Int32)), .val (.int (1 : Int32))] [(.ref b477)])) _
    refine XS.iload X530.here hx rfl (hb hby d11_129) rfl ?_
    show Steps p.tables e below (T530.setTop (mkF m 131 #[.val (.ref d), .val (.ref a), .val (.int (1 : Int32)), .val (.int (2 : Int32)), .val (.int (1 : Int32))] [(.int (1 : Int32)), (.ref b477)])) _
    refine XS.iload X530.here hx rfl (hb hby d11_131) rfl ?_
    show Steps p.tables e below (T530.setTop (mkF m 133 #[.val (.ref d), .val (.ref a), .val (.int (1 : Int32)), .val (.int (2 : Int32)), .val (.int (1 : Int32))] [(.int (1 : Int32)), (.int (1 : Int32)), (.ref b477)])) _
    exact kq)
  have f537 := (V512'.other W526 (Ne.symm (Nat.ne_of_lt lt_b464_b477)))
  obtain ⟨cl538, Ar538, q538, S538, M538, H538, Gf538⟩ := id f537
  have hi539 : ¬ ((1 : Int32) < 0 ∨ cl538.slots.size ≤ ((1 : Int32)).toNatClampNeg) := (inb_of S538 ⟨by decide, by decide⟩)
  obtain ⟨T540, h540, X540, e540, W540, st540⟩ := stI X530 hx hZ e530 Ar538 (j := (1 : Int32)) hi539 (g := (mkF m 133 #[.val (.ref d), .val (.ref a), .val (.int (1 : Int32)), .val (.int (2 : Int32)), .val (.int (1 : Int32))] [(.int (1 : Int32)), (.int (1 : Int32)), (.ref b477)])) rfl rfl (hb hby d11_133)
  have N540 := Fr.snoc X540 N526 g_b477
  have V540 := Arv.set Ar538 q538 S538 M538 H538 Gf538 rfl W540 1 rfl (Nat.le_of_ble_eq_true rfl)
  have V540' : Arv Z h540 b477 k477 .int (2 : Int32) [(.int (0 : Int32)), (.int (1 : Int32))] (.int (0 : Int32)) := by exact V540
  have G541 : Go p e below A0 (T540.setTop (mkF m 134 #[.val (.ref d), .val (.ref a), .val (.int (1 : Int32)), .val (.int (2 : Int32)), .val (.int (1 : Int32))] [])) := fun tq kq => G536 tq (st540 _ kq)
  have G542 : Go p e below A0 (T540.setTop (mkF m 141 #[.val (.ref d), .val (.ref a), .val (.int (1 : Int32)), .val (.int (2 : Int32)), .val (.int (2 : Int32))] [(.ref d)])) := fun tq kq => G541 tq (by
    refine XS.iinc X540.here hx rfl (hb hby d11_134) rfl (l' := #[.val (.ref d), .val (.ref a), .val (.int (1 : Int32)), .val (.int (2 : Int32)), .val (.int ((1 : Int32) + (1 : Int32)))]) rfl ?_
    show Steps p.tables e below (T540.setTop (mkF m 137 #[.val (.ref d), .val (.ref a), .val (.int (1 : Int32)), .val (.int (2 : Int32)), .val (.int ((1 : Int32) + (1 : Int32)))] [])) _
    rw [show ((1 : Int32) + (1 : Int32)) = (2 : Int32) from (by decide : ((1 : Int32) + (1 : Int32)) = (2 : Int32))]
    show Steps p.tables e below (T540.setTop (mkF m 137 #[.val (.ref d), .val (.ref a), .val (.int (1 : Int32)), .val (.int (2 : Int32)), .val (.int (2 : Int32))] [])) _
    refine XS.goto X540.here hx rfl (pc0 := 137) (pc' := 106) rfl (hb hby d11_137) (by decide) (by decide) ?_
    show Steps p.tables e below (T540.setTop (mkF m 106 #[.val (.ref d), .val (.ref a), .val (.int (1 : Int32)), .val (.int (2 : Int32)), .val (.int (2 : Int32))] [])) _
    refine XS.iload X540.here hx rfl (hb hby d11_106) rfl ?_
    show Steps p.tables e below (T540.setTop (mkF m 108 #[.val (.ref d), .val (.ref a), .val (.int (1 : Int32)), .val (.int (2 : Int32)), .val (.int (2 : Int32))] [(.int (2 : Int32))])) _
    refine XS.iloadN X540.here hx rfl (hb hby d11_108) rfl ?_
    show Steps p.tables e below (T540.setTop (mkF m 109 #[.val (.ref d), .val (.ref a), .val (.int (1 : Int32)), .val (.int (2 : Int32)), .val (.int (2 : Int32))] [(.int (2 : Int32)), (.int (2 : Int32))])) _
    refine XS.icmpYes X540.here hx rfl (pc0 := 109) (pc' := 140) rfl (hb hby d11_109) rfl (by decide) (by decide) (by decide) ?_
    show Steps p.tables e below (T540.setTop (mkF m 140 #[.val (.ref d), .val (.ref a), .val (.int (1 : Int32)), .val (.int (2 : Int32)), .val (.int (2 : Int32))] [])) _
    refine XS.aloadN X540.here hx rfl (hb hby d11_140) rfl rfl ?_
    show Steps p.tables e below (T540.setTop (mkF m 141 #[.val (.ref d), .val (.ref a), .val (.int (1 : Int32)), .val (.int (2 : Int32)), .val (.int (2 : Int32))] [(.ref d)])) _
    exact kq)
  have f543 := (((((((((((f416.other W423 (Or.inl (Nat.ne_of_lt lt_d_b236))).ext E430).other W437 (Or.inl (Nat.ne_of_lt lt_d_b249))).ext E464).other W470 (Or.inl (Nat.ne_of_lt lt_d_b210))).ext E477).other W484 (Or.inl (Nat.ne_of_lt lt_d_b223))).other W498 (Or.inl (Nat.ne_of_lt lt_d_b464))).other W512 (Or.inl (Nat.ne_of_lt lt_d_b477))).other W526 (Or.inl (Nat.ne_of_lt lt_d_b464))).other W540 (Or.inl (Nat.ne_of_lt lt_d_b477)))
  obtain ⟨T544, X544, e544, st544⟩ := getF X540 hx hZ hown (host := "") (Or.inl (hw _ (List.mem_of_getElem? (i := 108) rfl))) Via.refl e540 f543 (g := (mkF m 141 #[.val (.ref d), .val (.ref a), .val (.int (1 : Int32)), .val (.int (2 : Int32)), .val (.int (2 : Int32))] [(.ref d)])) rfl rfl (hb hby d11_141)
  have G545 : Go p e below A0 (T544.setTop (mkF m 144 #[.val (.ref d), .val (.ref a), .val (.int (1 : Int32)), .val (.int (2 : Int32)), .val (.int (2 : Int32))] [(.ref b236)])) := fun tq kq => G542 tq (st544 _ kq)
  have G546 : Go p e below A0 (T544.setTop (mkF m 146 #[.val (.ref d), .val (.ref a), .val (.int (1 : Int32)), .val (.int (2 : Int32)), .val (.int (2 : Int32))] [(.int (2 : Int32)), (.int (1 : Int32)), (.ref b236)])) := fun tq kq => G545 tq (by
    refine XS.iloadN X544.here hx rfl (hb hby d11_144) rfl ?_
    show Steps p.tables e below (T544.setTop (mkF m 145 #[.val (.ref d), .val (.ref a), .val (.int (1 : Int32)), .val (.int (2 : Int32)), .val (.int (2 : Int32))] [(.int (1 : Int32)), (.ref b236)])) _
    refine XS.iloadN X544.here hx rfl (hb hby d11_145) rfl ?_
    show Steps p.tables e below (T544.setTop (mkF m 146 #[.val (.ref d), .val (.ref a), .val (.int (1 : Int32)), .val (.int (2 : Int32)), .val (.int (2 : Int32))] [(.int (2 : Int32)), (.int (1 : Int32)), (.ref b236)])) _
    exact kq)
  have f547 := ((((((((((V423'.ext E430).other W437 (Nat.ne_of_lt lt_b236_b249)).ext E464).other W470 (Ne.symm (Nat.ne_of_lt lt_b210_b236))).ext E477).other W484 (Ne.symm (Nat.ne_of_lt lt_b223_b236))).other W498 (Nat.ne_of_lt lt_b236_b464)).other W512 (Nat.ne_of_lt lt_b236_b477)).other W526 (Nat.ne_of_lt lt_b236_b464)).other W540 (Nat.ne_of_lt lt_b236_b477))
  obtain ⟨cl548, Ar548, q548, S548, M548, H548, Gf548⟩ := id f547
  have hi549 : ¬ ((1 : Int32) < 0 ∨ cl548.slots.size ≤ ((1 : Int32)).toNatClampNeg) := (inb_of S548 ⟨by decide, by decide⟩)
  obtain ⟨T550, h550, X550, e550, W550, st550⟩ := stI X544 hx hZ e544 Ar548 (j := (1 : Int32)) hi549 (g := (mkF m 146 #[.val (.ref d), .val (.ref a), .val (.int (1 : Int32)), .val (.int (2 : Int32)), .val (.int (2 : Int32))] [(.int (2 : Int32)), (.int (1 : Int32)), (.ref b236)])) rfl rfl (hb hby d11_146)
  have N550 := Fr.snoc X550 N540 g_b236
  have V550 := Arv.set Ar548 q548 S548 M548 H548 Gf548 rfl W550 1 rfl (Nat.le_of_ble_eq_true rfl)
  have V550' : Arv Z h550 b236 k236 .int (2 : Int32) [(.int (4 : Int32)), (.int (2 : Int32))] (.int (0 : Int32)) := by exact V550
  have G551 : Go p e below A0 (T550.setTop (mkF m 147 #[.val (.ref d), .val (.ref a), .val (.int (1 : Int32)), .val (.int (2 : Int32)), .val (.int (2 : Int32))] [])) := fun tq kq => G546 tq (st550 _ kq)
  have G552 : Go p e below A0 (T550.setTop (mkF m 148 #[.val (.ref d), .val (.ref a), .val (.int (1 : Int32)), .val (.int (2 : Int32)), .val (.int (2 : Int32))] [(.ref d)])) := fun tq kq => G551 tq (by
    refine XS.aloadN X550.here hx rfl (hb hby d11_147) rfl rfl ?_
    show Steps p.tables e below (T550.setTop (mkF m 148 #[.val (.ref d), .val (.ref a), .val (.int (1 : Int32)), .val (.int (2 : Int32)), .val (.int (2 : Int32))] [(.ref d)])) _
    exact kq)
  have f553 := (((((((((((f426.ext E430).other W437 (Or.inl (Nat.ne_of_lt lt_d_b249))).ext E464).other W470 (Or.inl (Nat.ne_of_lt lt_d_b210))).ext E477).other W484 (Or.inl (Nat.ne_of_lt lt_d_b223))).other W498 (Or.inl (Nat.ne_of_lt lt_d_b464))).other W512 (Or.inl (Nat.ne_of_lt lt_d_b477))).other W526 (Or.inl (Nat.ne_of_lt lt_d_b464))).other W540 (Or.inl (Nat.ne_of_lt lt_d_b477))).other W550 (Or.inl (Nat.ne_of_lt lt_d_b236)))
  obtain ⟨T554, X554, e554, st554⟩ := getF X550 hx hZ hown (host := "") (Or.inl (hw _ (List.mem_of_getElem? (i := 110) rfl))) Via.refl e550 f553 (g := (mkF m 148 #[.val (.ref d), .val (.ref a), .val (.int (1 : Int32)), .val (.int (2 : Int32)), .val (.int (2 : Int32))] [(.ref d)])) rfl rfl (hb hby d11_148)
  have G555 : Go p e below A0 (T554.setTop (mkF m 151 #[.val (.ref d), .val (.ref a), .val (.int (1 : Int32)), .val (.int (2 : Int32)), .val (.int (2 : Int32))] [(.ref b249)])) := fun tq kq => G552 tq (st554 _ kq)
  have G556 : Go p e below A0 (T554.setTop (mkF m 153 #[.val (.ref d), .val (.ref a), .val (.int (1 : Int32)), .val (.int (2 : Int32)), .val (.int (2 : Int32))] [(.int (2 : Int32)), (.int (1 : Int32)), (.ref b249)])) := fun tq kq => G555 tq (by
    refine XS.iloadN X554.here hx rfl (hb hby d11_151) rfl ?_
    show Steps p.tables e below (T554.setTop (mkF m 152 #[.val (.ref d), .val (.ref a), .val (.int (1 : Int32)), .val (.int (2 : Int32)), .val (.int (2 : Int32))] [(.int (1 : Int32)), (.ref b249)])) _
    refine XS.iloadN X554.here hx rfl (hb hby d11_152) rfl ?_
    show Steps p.tables e below (T554.setTop (mkF m 153 #[.val (.ref d), .val (.ref a), .val (.int (1 : Int32)), .val (.int (2 : Int32)), .val (.int (2 : Int32))] [(.int (2 : Int32)), (.int (1 : Int32)), (.ref b249)])) _
    exact kq)
  have f558 := (Nat.le_trans (Nat.le_trans (Nat.le_trans (Nat.le_trans (Nat.le_trans (Nat.le_trans (Nat.le_trans f478 E477.1) (Keep.of_wr W484).1) (Keep.of_wr W498).1) (Keep.of_wr W512).1) (Keep.of_wr W526).1) (Keep.of_wr W540).1) (Keep.of_wr W550).1)
  obtain ⟨T557, h557, k557, X557, e557, E557, A557, Ex557, st557⟩ := newPE X554 hx hZ (hw _ (List.mem_of_getElem? (i := 37) rfl)) e554 (g := (mkF m 153 #[.val (.ref d), .val (.ref a), .val (.int (1 : Int32)), .val (.int (2 : Int32)), .val (.int (2 : Int32))] [(.int (2 : Int32)), (.int (1 : Int32)), (.ref b249)])) rfl (hb hby d11_153) rfl (by decide) (cap := 2) (by decide) (by decide) (by decide) (by decide) (ad := "[I") (by decide)
  obtain ⟨b557, g557⟩ : ∃ z, z = h550.size := ⟨_, rfl⟩
  rw [← g557] at A557 st557 Ex557
  have f559 := (Nat.le_trans (Nat.le_trans (Nat.le_trans (Nat.le_trans (Nat.le_trans (Nat.le_trans (Nat.le_trans f479 E477.1) (Keep.of_wr W484).1) (Keep.of_wr W498).1) (Keep.of_wr W512).1) (Keep.of_wr W526).1) (Keep.of_wr W540).1) (Keep.of_wr W550).1)
  have sz_b557 : h0.size ≤ b557 := Nat.le_trans f559 (Nat.le_of_eq g557.symm)
  have g_b557 : n0 ≤ b557 := Nat.le_trans f558 (Nat.le_of_eq g557.symm)
  have lt_d_b557 : d < b557 := Nat.lt_of_lt_of_le (((((((((((((((((((((((((f252.wr W254).ext E281).wr W287).ext E294).wr W301).wr W315).wr W329).wr W343).wr W357).wr W371).wr W385).wr W399).wr W413).wr W423).ext E430).wr W437).ext E464).wr W470).ext E477).wr W484).wr W498).wr W512).wr W526).wr W540).wr W550).lt (Nat.le_of_eq g557.symm)
  have lt_a_b557 : a < b557 := Nat.lt_of_lt_of_le (((((((((f447.ext E464).wr W470).ext E477).wr W484).wr W498).wr W512).wr W526).wr W540).wr W550).lt (Nat.le_of_eq g557.symm)
  have lt_b_b557 : b < b557 := Nat.lt_of_lt_of_le (((((((((f450.ext E464).other W470 (Nat.ne_of_lt lt_b_b210)).ext E477).other W484 (Nat.ne_of_lt lt_b_b223)).other W498 (Nat.ne_of_lt lt_b_b464)).other W512 (Nat.ne_of_lt lt_b_b477)).other W526 (Nat.ne_of_lt lt_b_b464)).other W540 (Nat.ne_of_lt lt_b_b477)).other W550 (Nat.ne_of_lt lt_b_b236)).lt (Nat.le_of_eq g557.symm)
  have lt_x_b557 : x < b557 := Nat.lt_of_lt_of_le ((((((((((((((((((((((((f270.ext E281).wr W287).ext E294).wr W301).wr W315).wr W329).wr W343).wr W357).wr W371).wr W385).wr W399).wr W413).wr W423).ext E430).wr W437).ext E464).wr W470).ext E477).wr W484).wr W498).wr W512).wr W526).wr W540).wr W550).lt (Nat.le_of_eq g557.symm)
  have lt_cx_b557 : cx < b557 := Nat.lt_of_lt_of_le ((((((((((((((((((((((((f275.ext E281).other W287 (Nat.ne_of_lt lt_cx_b210)).ext E294).other W301 (Nat.ne_of_lt lt_cx_b223)).other W315 (Nat.ne_of_lt lt_cx_b281)).other W329 (Nat.ne_of_lt lt_cx_b294)).other W343 (Nat.ne_of_lt lt_cx_b281)).other W357 (Nat.ne_of_lt lt_cx_b294)).other W371 (Nat.ne_of_lt lt_cx_b281)).other W385 (Nat.ne_of_lt lt_cx_b294)).other W399 (Nat.ne_of_lt lt_cx_b281)).other W413 (Nat.ne_of_lt lt_cx_b294)).other W423 (Nat.ne_of_lt lt_cx_b236)).ext E430).other W437 (Nat.ne_of_lt lt_cx_b249)).ext E464).other W470 (Nat.ne_of_lt lt_cx_b210)).ext E477).other W484 (Nat.ne_of_lt lt_cx_b223)).other W498 (Nat.ne_of_lt lt_cx_b464)).other W512 (Nat.ne_of_lt lt_cx_b477)).other W526 (Nat.ne_of_lt lt_cx_b464)).other W540 (Nat.ne_of_lt lt_cx_b477)).other W550 (Nat.ne_of_lt lt_cx_b236)).lt (Nat.le_of_eq g557.symm)
  have lt_y_b557 : y < b557 := Nat.lt_of_lt_of_le (((((((((f453.ext E464).wr W470).ext E477).wr W484).wr W498).wr W512).wr W526).wr W540).wr W550).lt (Nat.le_of_eq g557.symm)
  have lt_cy_b557 : cy < b557 := Nat.lt_of_lt_of_le (((((((((f458.ext E464).other W470 (Nat.ne_of_lt lt_cy_b210)).ext E477).other W484 (Nat.ne_of_lt lt_cy_b223)).other W498 (Nat.ne_of_lt lt_cy_b464)).other W512 (Nat.ne_of_lt lt_cy_b477)).other W526 (Nat.ne_of_lt lt_cy_b464)).other W540 (Nat.ne_of_lt lt_cy_b477)).other W550 (Nat.ne_of_lt lt_cy_b236)).lt (Nat.le_of_eq g557.symm)
  have lt_b210_b557 : b210 < b557 := Nat.lt_of_lt_of_le (((f519.other W526 (Nat.ne_of_lt lt_b210_b464)).other W540 (Nat.ne_of_lt lt_b210_b477)).other W550 (Nat.ne_of_lt lt_b210_b236)).lt (Nat.le_of_eq g557.symm)
  have lt_b223_b557 : b223 < b557 := Nat.lt_of_lt_of_le ((f533.other W540 (Nat.ne_of_lt lt_b223_b477)).other W550 (Nat.ne_of_lt lt_b223_b236)).lt (Nat.le_of_eq g557.symm)
  have lt_b236_b557 : b236 < b557 := Nat.lt_of_lt_of_le V550'.lt (Nat.le_of_eq g557.symm)
  have lt_b249_b557 : b249 < b557 := Nat.lt_of_lt_of_le (((((((((V437'.ext E464).other W470 (Ne.symm (Nat.ne_of_lt lt_b210_b249))).ext E477).other W484 (Ne.symm (Nat.ne_of_lt lt_b223_b249))).other W498 (Nat.ne_of_lt lt_b249_b464)).other W512 (Nat.ne_of_lt lt_b249_b477)).other W526 (Nat.ne_of_lt lt_b249_b464)).other W540 (Nat.ne_of_lt lt_b249_b477)).other W550 (Ne.symm (Nat.ne_of_lt lt_b236_b249))).lt (Nat.le_of_eq g557.symm)
  have lt_b281_b557 : b281 < b557 := Nat.lt_of_lt_of_le (((((((((((((V399'.other W413 (Nat.ne_of_lt lt_b281_b294)).other W423 (Ne.symm (Nat.ne_of_lt lt_b236_b281))).ext E430).other W437 (Ne.symm (Nat.ne_of_lt lt_b249_b281))).ext E464).other W470 (Ne.symm (Nat.ne_of_lt lt_b210_b281))).ext E477).other W484 (Ne.symm (Nat.ne_of_lt lt_b223_b281))).other W498 (Nat.ne_of_lt lt_b281_b464)).other W512 (Nat.ne_of_lt lt_b281_b477)).other W526 (Nat.ne_of_lt lt_b281_b464)).other W540 (Nat.ne_of_lt lt_b281_b477)).other W550 (Ne.symm (Nat.ne_of_lt lt_b236_b281))).lt (Nat.le_of_eq g557.symm)
  have lt_b294_b557 : b294 < b557 := Nat.lt_of_lt_of_le ((((((((((((V413'.other W423 (Ne.symm (Nat.ne_of_lt lt_b236_b294))).ext E430).other W437 (Ne.symm (Nat.ne_of_lt lt_b249_b294))).ext E464).other W470 (Ne.symm (Nat.ne_of_lt lt_b210_b294))).ext E477).other W484 (Ne.symm (Nat.ne_of_lt lt_b223_b294))).other W498 (Nat.ne_of_lt lt_b294_b464)).other W512 (Nat.ne_of_lt lt_b294_b477)).other W526 (Nat.ne_of_lt lt_b294_b464)).other W540 (Nat.ne_of_lt lt_b294_b477)).other W550 (Ne.symm (Nat.ne_of_lt lt_b236_b294))).lt (Nat.le_of_eq g557.symm)
  have lt_b430_b557 : b430 < b557 := Nat.lt_of_lt_of_le ((((((((((V430.other W437 (Ne.symm (Nat.ne_of_lt lt_b249_b430))).ext E464).other W470 (Ne.symm (Nat.ne_of_lt lt_b210_b430))).ext E477).other W484 (Ne.symm (Nat.ne_of_lt lt_b223_b430))).other W498 (Nat.ne_of_lt lt_b430_b464)).other W512 (Nat.ne_of_lt lt_b430_b477)).other W526 (Nat.ne_of_lt lt_b430_b464)).other W540 (Nat.ne_of_lt lt_b430_b477)).other W550 (Ne.symm (Nat.ne_of_lt lt_b236_b430))).lt (Nat.le_of_eq g557.symm)
  have lt_b464_b557 : b464 < b557 := Nat.lt_of_lt_of_le ((V526'.other W540 (Nat.ne_of_lt lt_b464_b477)).other W550 (Ne.symm (Nat.ne_of_lt lt_b236_b464))).lt (Nat.le_of_eq g557.symm)
  have lt_b477_b557 : b477 < b557 := Nat.lt_of_lt_of_le (V540'.other W550 (Ne.symm (Nat.ne_of_lt lt_b236_b477))).lt (Nat.le_of_eq g557.symm)
  have V557 : Arv Z h557 b557 k557 .int (2 : Int32) [(.int (0 : Int32)), (.int (0 : Int32))] (.int (0 : Int32)) := (Arv.new A557 (by decide)).pad (pad_rep [] (.int (0 : Int32)) 2)
  have G560 : Go p e below A0 (T557.setTop (mkF m 155 #[.val (.ref d), .val (.ref a), .val (.int (1 : Int32)), .val (.int (2 : Int32)), .val (.int (2 : Int32))] [(.ref b557), (.int (1 : Int32)), (.ref b249)])) := fun tq kq => G556 tq (st557 _ kq)
  have f561 := ((((((((((V437'.ext E464).other W470 (Ne.symm (Nat.ne_of_lt lt_b210_b249))).ext E477).other W484 (Ne.symm (Nat.ne_of_lt lt_b223_b249))).other W498 (Nat.ne_of_lt lt_b249_b464)).other W512 (Nat.ne_of_lt lt_b249_b477)).other W526 (Nat.ne_of_lt lt_b249_b464)).other W540 (Nat.ne_of_lt lt_b249_b477)).other W550 (Ne.symm (Nat.ne_of_lt lt_b236_b249))).ext E557)
  obtain ⟨cl562, Ar562, q562, S562, M562, H562, Gf562⟩ := id f561
  have hi563 : ¬ ((1 : Int32) < 0 ∨ cl562.slots.size ≤ ((1 : Int32)).toNatClampNeg) := (inb_of S562 ⟨by decide, by decide⟩)
  obtain ⟨T564, h564, X564, e564, W564, st564⟩ := stR X557 hx hZ e557 Ar562 (j := (1 : Int32)) hi563 rfl (Sto.ofVA Ar562 q562 O249 (Ins.self Ex557)) (g := (mkF m 155 #[.val (.ref d), .val (.ref a), .val (.int (1 : Int32)), .val (.int (2 : Int32)), .val (.int (2 : Int32))] [(.ref b557), (.int (1 : Int32)), (.ref b249)])) rfl rfl (hb hby d11_155)
  have N564 := Fr.snoc X564 N550 g_b249
  have V564 := Arv.set Ar562 q562 S562 M562 H562 Gf562 rfl W564 1 rfl (Nat.le_of_ble_eq_true rfl)
  have V564' : Arv Z h564 b249 k249 (.array .int) (2 : Int32) [(.ref b430), (.ref b557)] .null := by exact V564
  have G565 : Go p e below A0 (T564.setTop (mkF m 156 #[.val (.ref d), .val (.ref a), .val (.int (1 : Int32)), .val (.int (2 : Int32)), .val (.int (2 : Int32))] [])) := fun tq kq => G560 tq (st564 _ kq)
  have G566 : Go p e below A0 (T564.setTop (mkF m 64 #[.val (.ref d), .val (.ref a), .val (.int (2 : Int32)), .val (.int (2 : Int32)), .val (.int (2 : Int32))] [(.ref d), (.int (2 : Int32))])) := fun tq kq => G565 tq (by
    refine XS.iinc X564.here hx rfl (hb hby d11_156) rfl (l' := #[.val (.ref d), .val (.ref a), .val (.int ((1 : Int32) + (1 : Int32))), .val (.int (2 : Int32)), .val (.int (2 : Int32))]) rfl ?_
    show Steps p.tables e below (T564.setTop (mkF m 159 #[.val (.ref d), .val (.ref a), .val (.int ((1 : Int32) + (1 : Int32))), .val (.int (2 : Int32)), .val (.int (2 : Int32))] [])) _
    rw [show ((1 : Int32) + (1 : Int32)) = (2 : Int32) from (by decide : ((1 : Int32) + (1 : Int32)) = (2 : Int32))]
    show Steps p.tables e below (T564.setTop (mkF m 159 #[.val (.ref d), .val (.ref a), .val (.int (2 : Int32)), .val (.int (2 : Int32)), .val (.int (2 : Int32))] [])) _
    refine XS.goto X564.here hx rfl (pc0 := 159) (pc' := 62) rfl (hb hby d11_159) (by decide) (by decide) ?_
    show Steps p.tables e below (T564.setTop (mkF m 62 #[.val (.ref d), .val (.ref a), .val (.int (2 : Int32)), .val (.int (2 : Int32)), .val (.int (2 : Int32))] [])) _
    refine XS.iloadN X564.here hx rfl (hb hby d11_62) rfl ?_
    show Steps p.tables e below (T564.setTop (mkF m 63 #[.val (.ref d), .val (.ref a), .val (.int (2 : Int32)), .val (.int (2 : Int32)), .val (.int (2 : Int32))] [(.int (2 : Int32))])) _
    refine XS.aloadN X564.here hx rfl (hb hby d11_63) rfl rfl ?_
    show Steps p.tables e below (T564.setTop (mkF m 64 #[.val (.ref d), .val (.ref a), .val (.int (2 : Int32)), .val (.int (2 : Int32)), .val (.int (2 : Int32))] [(.ref d), (.int (2 : Int32))])) _
    exact kq)
  have f567 := (((((f515.other W526 (Or.inl (Nat.ne_of_lt lt_d_b464))).other W540 (Or.inl (Nat.ne_of_lt lt_d_b477))).other W550 (Or.inl (Nat.ne_of_lt lt_d_b236))).ext E557).other W564 (Or.inl (Nat.ne_of_lt lt_d_b249)))
  obtain ⟨T568, X568, e568, st568⟩ := getF X564 hx hZ hown (host := "") (Or.inl (hw _ (List.mem_of_getElem? (i := 104) rfl))) Via.refl e564 f567 (g := (mkF m 64 #[.val (.ref d), .val (.ref a), .val (.int (2 : Int32)), .val (.int (2 : Int32)), .val (.int (2 : Int32))] [(.ref d), (.int (2 : Int32))])) rfl rfl (hb hby d11_64)
  have G569 : Go p e below A0 (T568.setTop (mkF m 67 #[.val (.ref d), .val (.ref a), .val (.int (2 : Int32)), .val (.int (2 : Int32)), .val (.int (2 : Int32))] [(.ref b210), (.int (2 : Int32))])) := fun tq kq => G566 tq (st568 _ kq)
  have f570 := (((((f519.other W526 (Nat.ne_of_lt lt_b210_b464)).other W540 (Nat.ne_of_lt lt_b210_b477)).other W550 (Nat.ne_of_lt lt_b210_b236)).ext E557).other W564 (Nat.ne_of_lt lt_b210_b249))
  obtain ⟨cl571, Ar571, q571, S571, M571, H571, Gf571⟩ := id f570
  have G572 : Go p e below A0 (T568.setTop (mkF m 162 #[.val (.ref d), .val (.ref a), .val (.int (2 : Int32)), .val (.int (2 : Int32)), .val (.int (2 : Int32))] [])) := fun tq kq => G569 tq (by
    refine X568.arraylength hx (by rw [e568]; exact Ar571.1) (State.isArrayOf_alike hZ.alike Ar571.2.1) (g := (mkF m 67 #[.val (.ref d), .val (.ref a), .val (.int (2 : Int32)), .val (.int (2 : Int32)), .val (.int (2 : Int32))] [(.ref b210), (.int (2 : Int32))])) rfl rfl (hb hby d11_67) _ ?_
    rw [len_of S571 M571]
    show Steps p.tables e below (T568.setTop (mkF m 68 #[.val (.ref d), .val (.ref a), .val (.int (2 : Int32)), .val (.int (2 : Int32)), .val (.int (2 : Int32))] [(.int (2 : Int32)), (.int (2 : Int32))])) _
    refine XS.icmpYes X568.here hx rfl (pc0 := 68) (pc' := 162) rfl (hb hby d11_68) rfl (by decide) (by decide) (by decide) ?_
    show Steps p.tables e below (T568.setTop (mkF m 162 #[.val (.ref d), .val (.ref a), .val (.int (2 : Int32)), .val (.int (2 : Int32)), .val (.int (2 : Int32))] [])) _
    exact kq)
  have f573 := ((((((((((((((((((((((((((((((((((fw202.ext E210).other W215 (Or.inr (slot_ne (Or.inl (hw _ (List.mem_of_getElem? (i := 92) rfl))) (Or.inr (hw _ (List.mem_of_getElem? (i := 105) rfl))) (by decide) (t := .int) (t' := (.array (.array .int))) (by decide) (by decide)))).ext E223).other W228 (Or.inr (slot_ne (Or.inl (hw _ (List.mem_of_getElem? (i := 92) rfl))) (Or.inr (hw _ (List.mem_of_getElem? (i := 107) rfl))) (by decide) (t := .int) (t' := (.array (.array .int))) (by decide) (by decide)))).ext E236).other W241 (Or.inr (slot_ne (Or.inl (hw _ (List.mem_of_getElem? (i := 92) rfl))) (Or.inr (hw _ (List.mem_of_getElem? (i := 109) rfl))) (by decide) (t := .int) (t' := (.array .int)) (by decide) (by decide)))).ext E249).other W254 (Or.inr (slot_ne (Or.inl (hw _ (List.mem_of_getElem? (i := 92) rfl))) (Or.inr (hw _ (List.mem_of_getElem? (i := 111) rfl))) (by decide) (t := .int) (t' := (.array (.array .int))) (by decide) (by decide)))).ext E281).other W287 (Or.inl (Nat.ne_of_lt lt_d_b210))).ext E294).other W301 (Or.inl (Nat.ne_of_lt lt_d_b223))).other W315 (Or.inl (Nat.ne_of_lt lt_d_b281))).other W329 (Or.inl (Nat.ne_of_lt lt_d_b294))).other W343 (Or.inl (Nat.ne_of_lt lt_d_b281))).other W357 (Or.inl (Nat.ne_of_lt lt_d_b294))).other W371 (Or.inl (Nat.ne_of_lt lt_d_b281))).other W385 (Or.inl (Nat.ne_of_lt lt_d_b294))).other W399 (Or.inl (Nat.ne_of_lt lt_d_b281))).other W413 (Or.inl (Nat.ne_of_lt lt_d_b294))).other W423 (Or.inl (Nat.ne_of_lt lt_d_b236))).ext E430).other W437 (Or.inl (Nat.ne_of_lt lt_d_b249))).ext E464).other W470 (Or.inl (Nat.ne_of_lt lt_d_b210))).ext E477).other W484 (Or.inl (Nat.ne_of_lt lt_d_b223))).other W498 (Or.inl (Nat.ne_of_lt lt_d_b464))).other W512 (Or.inl (Nat.ne_of_lt lt_d_b477))).other W526 (Or.inl (Nat.ne_of_lt lt_d_b464))).other W540 (Or.inl (Nat.ne_of_lt lt_d_b477))).other W550 (Or.inl (Nat.ne_of_lt lt_d_b236))).ext E557).other W564 (Or.inl (Nat.ne_of_lt lt_d_b249)))
  have f574 := ((((f529.other W540 (Or.inl (Nat.ne_of_lt lt_d_b477))).other W550 (Or.inl (Nat.ne_of_lt lt_d_b236))).ext E557).other W564 (Or.inl (Nat.ne_of_lt lt_d_b249)))
  have f575 := (((f543.other W550 (Or.inl (Nat.ne_of_lt lt_d_b236))).ext E557).other W564 (Or.inl (Nat.ne_of_lt lt_d_b249)))
  have f576 := ((f553.ext E557).other W564 (Or.inl (Nat.ne_of_lt lt_d_b249)))
  have f577 := (((((((((((((((((((((((((((f252.wr W254).ext E281).wr W287).ext E294).wr W301).wr W315).wr W329).wr W343).wr W357).wr W371).wr W385).wr W399).wr W413).wr W423).ext E430).wr W437).ext E464).wr W470).ext E477).wr W484).wr W498).wr W512).wr W526).wr W540).wr W550).ext E557).wr W564)
  have f578 := ((((f533.other W540 (Nat.ne_of_lt lt_b223_b477)).other W550 (Nat.ne_of_lt lt_b223_b236)).ext E557).other W564 (Nat.ne_of_lt lt_b223_b249))
  have f579 := ((V550'.ext E557).other W564 (Nat.ne_of_lt lt_b236_b249))
  have f580 := (((((((((((((((V399'.other W413 (Nat.ne_of_lt lt_b281_b294)).other W423 (Ne.symm (Nat.ne_of_lt lt_b236_b281))).ext E430).other W437 (Ne.symm (Nat.ne_of_lt lt_b249_b281))).ext E464).other W470 (Ne.symm (Nat.ne_of_lt lt_b210_b281))).ext E477).other W484 (Ne.symm (Nat.ne_of_lt lt_b223_b281))).other W498 (Nat.ne_of_lt lt_b281_b464)).other W512 (Nat.ne_of_lt lt_b281_b477)).other W526 (Nat.ne_of_lt lt_b281_b464)).other W540 (Nat.ne_of_lt lt_b281_b477)).other W550 (Ne.symm (Nat.ne_of_lt lt_b236_b281))).ext E557).other W564 (Ne.symm (Nat.ne_of_lt lt_b249_b281)))
  have f581 := ((((((((((((((V413'.other W423 (Ne.symm (Nat.ne_of_lt lt_b236_b294))).ext E430).other W437 (Ne.symm (Nat.ne_of_lt lt_b249_b294))).ext E464).other W470 (Ne.symm (Nat.ne_of_lt lt_b210_b294))).ext E477).other W484 (Ne.symm (Nat.ne_of_lt lt_b223_b294))).other W498 (Nat.ne_of_lt lt_b294_b464)).other W512 (Nat.ne_of_lt lt_b294_b477)).other W526 (Nat.ne_of_lt lt_b294_b464)).other W540 (Nat.ne_of_lt lt_b294_b477)).other W550 (Ne.symm (Nat.ne_of_lt lt_b236_b294))).ext E557).other W564 (Ne.symm (Nat.ne_of_lt lt_b249_b294)))
  have f582 := ((((((((((((V430.other W437 (Ne.symm (Nat.ne_of_lt lt_b249_b430))).ext E464).other W470 (Ne.symm (Nat.ne_of_lt lt_b210_b430))).ext E477).other W484 (Ne.symm (Nat.ne_of_lt lt_b223_b430))).other W498 (Nat.ne_of_lt lt_b430_b464)).other W512 (Nat.ne_of_lt lt_b430_b477)).other W526 (Nat.ne_of_lt lt_b430_b464)).other W540 (Nat.ne_of_lt lt_b430_b477)).other W550 (Ne.symm (Nat.ne_of_lt lt_b236_b430))).ext E557).other W564 (Ne.symm (Nat.ne_of_lt lt_b249_b430)))
  have f583 := ((((V526'.other W540 (Nat.ne_of_lt lt_b464_b477)).other W550 (Ne.symm (Nat.ne_of_lt lt_b236_b464))).ext E557).other W564 (Ne.symm (Nat.ne_of_lt lt_b249_b464)))
  have f584 := (((V540'.other W550 (Ne.symm (Nat.ne_of_lt lt_b236_b477))).ext E557).other W564 (Ne.symm (Nat.ne_of_lt lt_b249_b477)))
  have f585 := (V557.other W564 (Ne.symm (Nat.ne_of_lt lt_b249_b557)))
  obtain ⟨fs, hr, hrun, hended, hW, hsame⟩ := X568.leave (v := none) (fun _ => rfl)
  refine ⟨_, _, (by rw [← hA0]; exact G572 _ (X568.returnOut hx Bd.returns (hb hby d11_162) hr)), hrun, hended, _, _, rfl, ?_, ⟨_, rfl⟩, hW, hsame.mono (by decide) (by decide)⟩
  show Qd Z d h0 n0 _ T568.heap _
  rw [e568]
  exact ⟨b210, b223, b236, b249, b281, b294, b430, b464, b477, b557, rfl, N564, ((((((((((((((((((((((((((((((((((((Keep.refl h0 [d]).wr W202 (Or.inl (List.mem_of_getElem? (i := 0) rfl))).ext E210).wr W215 (Or.inl (List.mem_of_getElem? (i := 0) rfl))).ext E223).wr W228 (Or.inl (List.mem_of_getElem? (i := 0) rfl))).ext E236).wr W241 (Or.inl (List.mem_of_getElem? (i := 0) rfl))).ext E249).wr W254 (Or.inl (List.mem_of_getElem? (i := 0) rfl))).ext E281).wr W287 (Or.inr sz_b210)).ext E294).wr W301 (Or.inr sz_b223)).wr W315 (Or.inr sz_b281)).wr W329 (Or.inr sz_b294)).wr W343 (Or.inr sz_b281)).wr W357 (Or.inr sz_b294)).wr W371 (Or.inr sz_b281)).wr W385 (Or.inr sz_b294)).wr W399 (Or.inr sz_b281)).wr W413 (Or.inr sz_b294)).wr W423 (Or.inr sz_b236)).ext E430).wr W437 (Or.inr sz_b249)).ext E464).wr W470 (Or.inr sz_b210)).ext E477).wr W484 (Or.inr sz_b223)).wr W498 (Or.inr sz_b464)).wr W512 (Or.inr sz_b477)).wr W526 (Or.inr sz_b464)).wr W540 (Or.inr sz_b477)).wr W550 (Or.inr sz_b236)).ext E557).wr W564 (Or.inr sz_b249)), sz_b210, ⟨gd, lt_d_b210, lt_b210_b223, lt_b223_b236, lt_b236_b249, lt_b249_b281, lt_b281_b294, lt_b294_b430, lt_b430_b464, lt_b464_b477, lt_b477_b557⟩, ⟨f577, f573, f567, f574, f575, f576, ⟨_, f570⟩, ⟨_, f578⟩, ⟨_, V564'⟩, own_ai f579 own_lsz, own_ai f580 (own_lid4), own_ai f581 (own_lid4), own_ai f582 (own_lz4), own_ai f583 (own_lid2), own_ai f584 (own_lid2), own_ai f585 (own_lz2)⟩⟩
theorem own_sel {s : State} {args : Array Value} {y : MethodName} {n : Nat} (wi : (Jvm.Cond.instantiable y.cls n).before args s = true) (hp : (Jvm.Cond.privateMethod y).before args s = true) (hi : (Jvm.Cond.instanceMethod y).before args s = true) (hy : y.cls ≠ "java/lang/invoke/MethodHandle" ∧ y.cls ≠ "java/lang/invoke/VarHandle") : (Jvm.Cond.selects y.cls y y).before args s = true := by
  obtain ⟨c, k, h1, h2, -, h4, -⟩ := Cond.instantiable_spec wi
  exact selects_self_of_private h1 h2 (by cases hh : k.isInterface <;> simp_all) (Cond.privateMethod_at hp) hi hy
def own_sm (fm : Nat → Int32) (fr to_ : Int32) : Nat → Int32 := own_up (own_up fm fr.toNatClampNeg (fm to_.toNatClampNeg)) to_.toNatClampNeg (fm fr.toNatClampNeg)
def own_sp (fm fp : Nat → Int32) (fr to_ : Int32) : Nat → Int32 := own_up (own_up fp (own_sm fm fr to_ fr.toNatClampNeg).toNatClampNeg fr) (fm fr.toNatClampNeg).toNatClampNeg to_
def own_R (n : Nat) (f : Nat → Int32) : Prop := ∀ i, i < n → ¬ f i < 0 ∧ (f i).toNatClampNeg < n
def Inv (n : Nat) (fm fp : Nat → Int32) : Prop := own_R n fm ∧ own_R n fp ∧ (∀ i, i < n → (fp (fm i).toNatClampNeg).toNatClampNeg = i) ∧ (∀ a, a < n → (fm (fp a).toNatClampNeg).toNatClampNeg = a)
theorem own_upN (f : Nat → Int32) (x : Nat) (v : Int32) (k : Nat) : (own_up f x v k).toNatClampNeg = if k = x then v.toNatClampNeg else (f k).toNatClampNeg := by unfold own_up; split <;> rfl
theorem own_upS (f : Nat → Int32) (x : Nat) (v : Int32) (k : Nat) (hv : ¬ v < 0) (hf : ¬ f k < 0) : ¬ own_up f x v k < 0 := by unfold own_up; split <;> assumption
theorem own_swapN {n i j : Nat} {M P : Nat → Nat} (hM : ∀ k, k < n → M k < n) (hP : ∀ c, c < n → P c < n) (h1 : ∀ k, k < n → P (M k) = k) (h2 : ∀ c, c < n → M (P c) = c) (hi : i < n) (hj : j < n) :
    (∀ k, k < n → (if k = j then M i else if k = i then M j else M k) < n) ∧ (∀ c, c < n → (if c = M i then j else if c = M j then i else P c) < n) ∧
    (∀ k, k < n → (fun c => if c = M i then j else if c = M j then i else P c) (if k = j then M i else if k = i then M j else M k) = k) ∧ (∀ c, c < n → (fun k => if k = j then M i else if k = i then M j else M k) (if c = M i then j else if c = M j then i else P c) = c) := by
  have inj : ∀ x y, x < n → y < n → M x = M y → x = y := fun x y hx hy e => by rw [← h1 x hx, ← h1 y hy, e]
  refine ⟨fun k hk => ?_, fun c hc => ?_, fun k hk => ?_, fun c hc => ?_⟩
  · split
    · exact hM i hi
    · split
      · exact hM j hj
      · exact hM k hk
  · split
    · exact hj
    · split
      · exact hi
      · exact hP c hc
  · by_cases e1 : k = j
    · simp [e1]
    · by_cases e2 : k = i
      · have ne : M j ≠ M i := fun q => e1 (e2.trans (inj j i hj hi q).symm)
        subst e2
        simp [e1, ne]
      · have n1 : M k ≠ M i := fun q => e2 (inj k i hk hi q)
        have n2 : M k ≠ M j := fun q => e1 (inj k j hk hj q)
        simp [e1, e2, n1, n2, h1 k hk]
  · by_cases e1 : c = M i
    · simp [e1]
    · by_cases e2 : c = M j
      · have ne : i ≠ j := fun q => e1 (by rw [e2, q])
        have ne' : M j ≠ M i := fun q => e1 (e2.trans q)
        simp only [e2, if_true]
        rw [if_neg ne']
        simp [ne]
      · have n1 : P c ≠ j := fun q => e2 (by rw [← q, h2 c hc])
        have n2 : P c ≠ i := fun q => e1 (by rw [← q, h2 c hc])
        simp [e1, e2, n1, n2, h2 c hc]
theorem own_smN (fm : Nat → Int32) (fr to_ : Int32) (k : Nat) : (own_sm fm fr to_ k).toNatClampNeg = if k = to_.toNatClampNeg then (fm fr.toNatClampNeg).toNatClampNeg else if k = fr.toNatClampNeg then (fm to_.toNatClampNeg).toNatClampNeg else (fm k).toNatClampNeg := by
  unfold own_sm; rw [own_upN, own_upN]
theorem own_smI (fm : Nat → Int32) (fr to_ : Int32) : (own_sm fm fr to_ fr.toNatClampNeg).toNatClampNeg = (fm to_.toNatClampNeg).toNatClampNeg := by
  rw [own_smN]
  by_cases e : fr.toNatClampNeg = to_.toNatClampNeg
  · rw [if_pos e, e]
  · rw [if_neg e, if_pos rfl]
theorem own_spN (fm fp : Nat → Int32) (fr to_ : Int32) (c : Nat) : (own_sp fm fp fr to_ c).toNatClampNeg = if c = (fm fr.toNatClampNeg).toNatClampNeg then to_.toNatClampNeg else if c = (fm to_.toNatClampNeg).toNatClampNeg then fr.toNatClampNeg else (fp c).toNatClampNeg := by
  unfold own_sp; rw [own_upN, own_upN, own_smI]
theorem own_swapInv {n : Nat} {fm fp : Nat → Int32} {fr to_ : Int32} (I : Inv n fm fp) (hf : ¬ fr < 0) (hf' : fr.toNatClampNeg < n) (ht : ¬ to_ < 0) (ht' : to_.toNatClampNeg < n) : Inv n (own_sm fm fr to_) (own_sp fm fp fr to_) := by
  obtain ⟨R1, R2, h1, h2⟩ := I
  obtain ⟨q1, q2, q3, q4⟩ := own_swapN (M := fun k => (fm k).toNatClampNeg) (P := fun c => (fp c).toNatClampNeg) (fun k hk => (R1 k hk).2) (fun c hc => (R2 c hc).2) h1 h2 hf' ht'
  refine ⟨fun k hk => ⟨?_, ?_⟩, fun c hc => ⟨?_, ?_⟩, fun k hk => ?_, fun c hc => ?_⟩
  · exact own_upS _ _ _ _ (R1 _ hf').1 (own_upS _ _ _ _ (R1 _ ht').1 (R1 k hk).1)
  · rw [own_smN]; exact q1 k hk
  · exact own_upS _ _ _ _ ht (own_upS _ _ _ _ hf (R2 c hc).1)
  · rw [own_spN]; exact q2 c hc
  · rw [own_spN, own_smN]; exact q3 k hk
  · rw [own_smN, own_spN]; exact q4 c hc
theorem own_nlt {a b : Int32} (ha : ¬ a < 0) (hb : ¬ b < 0) : a < b ↔ a.toNatClampNeg < b.toNatClampNeg := by
  have e1 := nat_of ha
  have e2 := nat_of hb
  rw [Int32.lt_iff_toInt_lt, e1, e2]; omega
theorem own_zlt {a : Int32} {n : Nat} (ha : ¬ a < 0) (h : a.toNatClampNeg < n) (z : Int32) (hz : z.toInt = (n : Int)) : a < z := by
  have e1 := nat_of ha
  rw [Int32.lt_iff_toInt_lt, e1, hz]; omega
/-- what a removal leaves -/
theorem own_removed {n : Nat} {fm fp : Nat → Int32} {s : Int32} (I : Inv n fm fp) (hs : ¬ s < 0) {a : Nat} (ha : a < n) (hin : fp a < s) (hsn : s.toNatClampNeg ≤ n) :
    ¬ (s - 1) < 0 ∧ (s - 1).toNatClampNeg < n ∧ (s - 1).toNatClampNeg ≤ n ∧ ∀ c, c < n → (own_sp fm fp (fp a) (s - 1) c < s - 1 ↔ fp c < s ∧ c ≠ a) := by
  have hpa := (I.2.1 a ha)
  have hin' := (own_nlt hpa.1 hs).mp hin
  have es := nat_of hs
  have rs := rng32 s
  have e1 : (1 : Int32).toInt = 1 := by decide
  have c := c_isub s 1
  have rd := rng32 (s - 1)
  rw [e1] at c
  have e2 : (s - 1).toInt = s.toInt - 1 := by omega
  have h0 : ¬ (s - 1) < 0 := by
    rw [Int32.lt_iff_toInt_lt, e2]
    have : (0 : Int32).toInt = 0 := by decide
    rw [this]; omega
  have e3 := nat_of h0
  have e4 : (s - 1).toNatClampNeg = s.toNatClampNeg - 1 := by omega
  refine ⟨h0, by omega, by omega, fun x hx => ?_⟩
  have I' := own_swapInv I hpa.1 hpa.2 h0 (by omega)
  rw [own_nlt (I'.2.1 x hx).1 h0, own_nlt (I.2.1 x hx).1 hs, own_spN, e4]
  have ma := I.2.2.2 a ha
  rw [ma]
  by_cases q1 : x = a
  · simp [q1]
  · rw [if_neg q1]
    by_cases q2 : x = (fm (s - 1).toNatClampNeg).toNatClampNeg
    · rw [if_pos (by rw [← e4]; exact q2)]
      have hpx : (fp x).toNatClampNeg = s.toNatClampNeg - 1 := by
        have := I.2.2.1 (s - 1).toNatClampNeg (by omega)
        rw [← q2] at this; rw [this, e4]
      have hne : (fp a).toNatClampNeg ≠ s.toNatClampNeg - 1 := fun q => by
        apply q1
        rw [q2, e4, ← q]; exact ma
      constructor
      · intro _; exact ⟨by omega, q1⟩
      · intro _; omega
    · rw [if_neg (by rw [← e4]; exact q2)]
      have hne : (fp x).toNatClampNeg ≠ s.toNatClampNeg - 1 := fun q => by
        apply q2
        rw [e4, ← q]; exact (I.2.2.2 x hx).symm
      constructor
      · intro h; exact ⟨by omega, q1⟩
      · intro h; omega
theorem own_assigned {n : Nat} {fm fp : Nat → Int32} (I : Inv n fm fp) {a : Nat} (ha : a < n) : ∀ c, c < n → (own_sp fm fp (fp a) (0 : Int32) c < (1 : Int32) ↔ c = a) := by
  intro x hx
  have hpa := (I.2.1 a ha)
  have z0 : ¬ (0 : Int32) < 0 := by decide
  have e0 : (0 : Int32).toNatClampNeg = 0 := by decide
  have e1 : (1 : Int32).toNatClampNeg = 1 := by decide
  have I' := own_swapInv I hpa.1 hpa.2 z0 (by rw [e0]; omega)
  rw [own_nlt (I'.2.1 x hx).1 (by decide), own_spN, e1, e0]
  have ma := I.2.2.2 a ha
  rw [ma]
  by_cases q1 : x = a
  · simp [q1]
  · rw [if_neg q1]
    by_cases q2 : x = (fm 0).toNatClampNeg
    · rw [if_pos q2]
      have hne : (fp a).toNatClampNeg ≠ 0 := fun q => by
        apply q1
        rw [q2, ← q]; exact ma
      constructor
      · intro h; omega
      · intro h; exact absurd h q1
    · rw [if_neg q2]
      have hne : (fp x).toNatClampNeg ≠ 0 := fun q => by
        apply q2
        rw [← q]; exact (I.2.2.2 x hx).symm
      constructor
      · intro h; omega
      · intro h; exact absurd h q1
def Qs0 (Z : State) (d mem pos siz mrk m0 p0 k0 m1 p1 k1 : Addr) (rd : Int32) (fsz fm0 fp0 fk0 fm1 fp1 fk1 : Nat → Int32) (fr to_ : Int32) (h0 : Heap) (n0 : Nat) (v : Option Value) (h : Heap) (L : List Loc) : Prop := v = none ∧ Fr n0 L ∧ Keep h0 h [m0, p0] ∧ Dom Z h d mem pos siz mrk m0 p0 k0 m1 p1 k1 rd (fsz) (own_sm fm0 fr to_) (own_sp fm0 fp0 fr to_) (fk0) (fm1) (fp1) (fk1)
set_option maxRecDepth 65536 in
set_option maxHeartbeats 40000000 in
theorem rmS0 (l : Launch) (Z : State) (a0 : Array Value) (hw : ∀ d ∈ tables_1, d.before a0 Z = true) (ws : List Jvm.Cond) (d mem pos siz mrk m0 p0 k0 m1 p1 k1 : Addr) (rd : Int32) (fsz fm0 fp0 fk0 fm1 fp1 fk1 : Nat → Int32) (fr to_ : Int32) (h0 : Heap) (n0 : Nat) (Z0 : n0 ≤ h0.size) (hord : Ord n0 d mem pos siz mrk m0 p0 k0 m1 p1 k1) (hdom : Dom Z h0 d mem pos siz mrk m0 p0 k0 m1 p1 k1 rd (fsz) (fm0) (fp0) (fk0) (fm1) (fp1) (fk1)) (hfr : ¬ fr < 0 ∧ fr < (4 : Int32)) (hto : ¬ to_ < 0 ∧ to_ < (4 : Int32)) (hx0 : ¬ (fm0 fr.toNatClampNeg) < 0 ∧ (fm0 fr.toNatClampNeg) < (4 : Int32)) (hx1 : ¬ (own_sm fm0 fr to_ fr.toNatClampNeg) < 0 ∧ (own_sm fm0 fr to_ fr.toNatClampNeg) < (4 : Int32)) :
    MetFree l (⟨"com/example/ludarc/ludarc/engine/Domains", "swap", "(III)V"⟩ : MethodName) (head1 (Jvm.Cond.code (⟨"com/example/ludarc/ludarc/engine/Domains", "swap", "(III)V"⟩ : MethodName) prog_5_method_14_code 6 none :: ws) ({ frames := 0, cells := 0, slots := 0, locals := 0 } : Room)) (fun aa UU => aa = #[(.ref d), (.int (0 : Int32)), (.int fr), (.int to_)] ∧ Z.Warmed39 UU.vm ∧ UU.heap = h0) (fun _ _ _ _ _ => True) (fun _ UU oo U' => ∃ v L, oo = .returned v ∧ Qs0 Z d mem pos siz mrk m0 p0 k0 m1 p1 k1 rd fsz fm0 fp0 fk0 fm1 fp1 fk1 fr to_ h0 n0 v U'.heap L ∧ FrameEnd UU oo U' L ({ frames := 0, cells := 0, slots := 0, locals := 0 } : Room).cells ({ frames := 0, cells := 0, slots := 0, locals := 0 } : Room).slots) := by
  refine MetFree.of_bodySF (plainFor_of_name pn_6) hisR ?_
  intro p e s m args below meth c s₁ Bd hml0 hP hK
  obtain ⟨rfl, hZ, hh⟩ := hP
  have hx := Bd.exec
  have hby := Bd.bytes
  have hml : c.maxLocals = 6 := hml0
  have hown : s.vm.findClass "com/example/ludarc/ludarc/engine/Domains" = some m.cls := findClass_of_methodNamed Bd.named
  have hnm := (name_of_methodNamed Bd.named Bd.method).1
  have X0 : Stand p l e ({ frames := 0, cells := 0, slots := 0, locals := 0 } : Room) s m #[(.ref d), (.int (0 : Int32)), (.int fr), (.int to_)] below meth c s₁ [] 0 0 := Stand.of_body Bd
  have e0 : s₁.heap = h0 := by rw [← hh, Bd.state]; rfl
  have N0 := Fr.nil n0
  obtain ⟨A0, hA0⟩ : ∃ A, A = s₁.setTop (entryFrame m #[(.ref d), (.int (0 : Int32)), (.int fr), (.int to_)] 6) := ⟨_, rfl⟩
  have G0 : Go p e below A0 (s₁.setTop (mkF m 0 #[.val (.ref d), .val (.int (0 : Int32)), .val (.int fr), .val (.int to_), .unset, .unset] [])) := fun tq kq => by rw [hA0]; exact castTop (ef_rmS0 m d (0 : Int32) fr to_) kq
  obtain ⟨o0, o1, o2, o3, o4, o5, o6, o7, o8, o9, o10⟩ := hord
  obtain ⟨Ed, D0_, D1_, D2_, D3_, D4_, ⟨cmem, Amem⟩, ⟨cpos, Apos⟩, ⟨cmrk, Amrk⟩, ⟨csiz, Asiz⟩, ⟨cm0, Am0⟩, ⟨cp0, Ap0⟩, ⟨ck0, Ak0⟩, ⟨cm1, Am1⟩, ⟨cp1, Ap1⟩, ⟨ck1, Ak1⟩⟩ := hdom
  have G586 : Go p e below A0 (s₁.setTop (mkF m 1 #[.val (.ref d), .val (.int (0 : Int32)), .val (.int fr), .val (.int to_), .unset, .unset] [(.ref d)])) := fun tq kq => G0 tq (by
    refine XS.aloadN X0.here hx rfl (hb hby d20_0) rfl rfl ?_
    show Steps p.tables e below (s₁.setTop (mkF m 1 #[.val (.ref d), .val (.int (0 : Int32)), .val (.int fr), .val (.int to_), .unset, .unset] [(.ref d)])) _
    exact kq)
  obtain ⟨T587, X587, e587, st587⟩ := getF X0 hx hZ hown (host := "") (Or.inl (hw _ (List.mem_of_getElem? (i := 104) rfl))) Via.refl e0 D1_ (g := (mkF m 1 #[.val (.ref d), .val (.int (0 : Int32)), .val (.int fr), .val (.int to_), .unset, .unset] [(.ref d)])) rfl rfl (hb hby d20_1)
  have G588 : Go p e below A0 (T587.setTop (mkF m 4 #[.val (.ref d), .val (.int (0 : Int32)), .val (.int fr), .val (.int to_), .unset, .unset] [(.ref mem)])) := fun tq kq => G586 tq (st587 _ kq)
  have G589 : Go p e below A0 (T587.setTop (mkF m 5 #[.val (.ref d), .val (.int (0 : Int32)), .val (.int fr), .val (.int to_), .unset, .unset] [(.int (0 : Int32)), (.ref mem)])) := fun tq kq => G588 tq (by
    refine XS.iloadN X587.here hx rfl (hb hby d20_4) rfl ?_
    show Steps p.tables e below (T587.setTop (mkF m 5 #[.val (.ref d), .val (.int (0 : Int32)), .val (.int fr), .val (.int to_), .unset, .unset] [(.int (0 : Int32)), (.ref mem)])) _
    exact kq)
  obtain ⟨cl590, Ar590, q590, S590, M590, H590, Gf590⟩ := id Amem
  have hi591 : ¬ ((0 : Int32) < 0 ∨ cl590.slots.size ≤ ((0 : Int32)).toNatClampNeg) := (inb_of S590 ⟨by decide, by decide⟩)
  have G592 : Go p e below A0 (T587.setTop (mkF m 11 #[.val (.ref d), .val (.int (0 : Int32)), .val (.int fr), .val (.int to_), .val (.ref m0), .unset] [(.int fr), (.ref m0)])) := fun tq kq => G589 tq (by
    refine X587.aaload hx (j := (0 : Int32)) (v := (.ref m0)) (by rw [e587]; exact Ar590.1) (State.isArrayOf_alike hZ.alike Ar590.2.1) rfl Ar590.2.2 hi591 (H590.at hi591 rfl) (g := (mkF m 5 #[.val (.ref d), .val (.int (0 : Int32)), .val (.int fr), .val (.int to_), .unset, .unset] [(.int (0 : Int32)), (.ref mem)])) rfl rfl (hb hby d20_5) _ ?_
    show Steps p.tables e below (T587.setTop (mkF m 6 #[.val (.ref d), .val (.int (0 : Int32)), .val (.int fr), .val (.int to_), .unset, .unset] [(.ref m0)])) _
    refine XS.astore X587.here hx rfl (hb hby d20_6) rfl rfl (l' := #[.val (.ref d), .val (.int (0 : Int32)), .val (.int fr), .val (.int to_), .val (.ref m0), .unset]) rfl ?_
    show Steps p.tables e below (T587.setTop (mkF m 8 #[.val (.ref d), .val (.int (0 : Int32)), .val (.int fr), .val (.int to_), .val (.ref m0), .unset] [])) _
    refine XS.aload X587.here hx rfl (hb hby d20_8) rfl rfl ?_
    show Steps p.tables e below (T587.setTop (mkF m 10 #[.val (.ref d), .val (.int (0 : Int32)), .val (.int fr), .val (.int to_), .val (.ref m0), .unset] [(.ref m0)])) _
    refine XS.iloadN X587.here hx rfl (hb hby d20_10) rfl ?_
    show Steps p.tables e below (T587.setTop (mkF m 11 #[.val (.ref d), .val (.int (0 : Int32)), .val (.int fr), .val (.int to_), .val (.ref m0), .unset] [(.int fr), (.ref m0)])) _
    exact kq)
  obtain ⟨cl593, Ar593, q593, S593, M593, H593⟩ := id Am0
  have hi594 : ¬ (fr < 0 ∨ cl593.slots.size ≤ (fr).toNatClampNeg) := (inb_of S593 hfr)
  have G595 : Go p e below A0 (T587.setTop (mkF m 20 #[.val (.ref d), .val (.int (0 : Int32)), .val (.int fr), .val (.int to_), .val (.ref m0), .val (.int (fm0 (fr).toNatClampNeg))] [(.int to_), (.ref m0), (.int fr), (.ref m0)])) := fun tq kq => G592 tq (by
    refine X587.iaload hx (j := fr) (v := (.int (fm0 (fr).toNatClampNeg))) (by rw [e587]; exact Ar593.1) (State.isArrayOf_alike hZ.alike Ar593.2.1) Ar593.2.2 hi594 ((H593 _ (S593 ▸ Nat.lt_of_not_le fun y => hi594 (Or.inr y))).trans (congrArg some rfl)) (g := (mkF m 11 #[.val (.ref d), .val (.int (0 : Int32)), .val (.int fr), .val (.int to_), .val (.ref m0), .unset] [(.int fr), (.ref m0)])) rfl rfl (hb hby d20_11) _ ?_
    show Steps p.tables e below (T587.setTop (mkF m 12 #[.val (.ref d), .val (.int (0 : Int32)), .val (.int fr), .val (.int to_), .val (.ref m0), .unset] [(.int (fm0 (fr).toNatClampNeg))])) _
    refine XS.istore X587.here hx rfl (hb hby d20_12) rfl (l' := #[.val (.ref d), .val (.int (0 : Int32)), .val (.int fr), .val (.int to_), .val (.ref m0), .val (.int (fm0 (fr).toNatClampNeg))]) rfl ?_
    show Steps p.tables e below (T587.setTop (mkF m 14 #[.val (.ref d), .val (.int (0 : Int32)), .val (.int fr), .val (.int to_), .val (.ref m0), .val (.int (fm0 (fr).toNatClampNeg))] [])) _
    refine XS.aload X587.here hx rfl (hb hby d20_14) rfl rfl ?_
    show Steps p.tables e below (T587.setTop (mkF m 16 #[.val (.ref d), .val (.int (0 : Int32)), .val (.int fr), .val (.int to_), .val (.ref m0), .val (.int (fm0 (fr).toNatClampNeg))] [(.ref m0)])) _
    refine XS.iloadN X587.here hx rfl (hb hby d20_16) rfl ?_
    show Steps p.tables e below (T587.setTop (mkF m 17 #[.val (.ref d), .val (.int (0 : Int32)), .val (.int fr), .val (.int to_), .val (.ref m0), .val (.int (fm0 (fr).toNatClampNeg))] [(.int fr), (.ref m0)])) _
    refine XS.aload X587.here hx rfl (hb hby d20_17) rfl rfl ?_
    show Steps p.tables e below (T587.setTop (mkF m 19 #[.val (.ref d), .val (.int (0 : Int32)), .val (.int fr), .val (.int to_), .val (.ref m0), .val (.int (fm0 (fr).toNatClampNeg))] [(.ref m0), (.int fr), (.ref m0)])) _
    refine XS.iloadN X587.here hx rfl (hb hby d20_19) rfl ?_
    show Steps p.tables e below (T587.setTop (mkF m 20 #[.val (.ref d), .val (.int (0 : Int32)), .val (.int fr), .val (.int to_), .val (.ref m0), .val (.int (fm0 (fr).toNatClampNeg))] [(.int to_), (.ref m0), (.int fr), (.ref m0)])) _
    exact kq)
  obtain ⟨cl596, Ar596, q596, S596, M596, H596⟩ := id Am0
  have hi597 : ¬ (to_ < 0 ∨ cl596.slots.size ≤ (to_).toNatClampNeg) := (inb_of S596 hto)
  have G598 : Go p e below A0 (T587.setTop (mkF m 21 #[.val (.ref d), .val (.int (0 : Int32)), .val (.int fr), .val (.int to_), .val (.ref m0), .val (.int (fm0 (fr).toNatClampNeg))] [(.int (fm0 (to_).toNatClampNeg)), (.int fr), (.ref m0)])) := fun tq kq => G595 tq (by
    refine X587.iaload hx (j := to_) (v := (.int (fm0 (to_).toNatClampNeg))) (by rw [e587]; exact Ar596.1) (State.isArrayOf_alike hZ.alike Ar596.2.1) Ar596.2.2 hi597 ((H596 _ (S596 ▸ Nat.lt_of_not_le fun y => hi597 (Or.inr y))).trans (congrArg some rfl)) (g := (mkF m 20 #[.val (.ref d), .val (.int (0 : Int32)), .val (.int fr), .val (.int to_), .val (.ref m0), .val (.int (fm0 (fr).toNatClampNeg))] [(.int to_), (.ref m0), (.int fr), (.ref m0)])) rfl rfl (hb hby d20_20) _ ?_
    show Steps p.tables e below (T587.setTop (mkF m 21 #[.val (.ref d), .val (.int (0 : Int32)), .val (.int fr), .val (.int to_), .val (.ref m0), .val (.int (fm0 (fr).toNatClampNeg))] [(.int (fm0 (to_).toNatClampNeg)), (.int fr), (.ref m0)])) _
    exact kq)
  obtain ⟨cl599, Ar599, q599, S599, M599, H599⟩ := id Am0
  have hi600 : ¬ (fr < 0 ∨ cl599.slots.size ≤ (fr).toNatClampNeg) := (inb_of S599 hfr)
  obtain ⟨T601, h601, X601, e601, W601, st601⟩ := stI X587 hx hZ e587 Ar599 (j := fr) hi600 (g := (mkF m 21 #[.val (.ref d), .val (.int (0 : Int32)), .val (.int fr), .val (.int to_), .val (.ref m0), .val (.int (fm0 (fr).toNatClampNeg))] [(.int (fm0 (to_).toNatClampNeg)), (.int fr), (.ref m0)])) rfl rfl (hb hby d20_21)
  have N601 := Fr.snoc X601 N0 (show @LE.le Nat _ n0 m0 by omega)
  have V601 : Af Z h601 m0 cm0 .int (4 : Int32) (fun i => .int ((own_up fm0 (fr).toNatClampNeg (fm0 (to_).toNatClampNeg)) i)) := (Af.set Ar599 q599 S599 M599 H599 W601 hi600).fn (fun j _ => own_upf _ _ _ _ rfl j)
  have G602 : Go p e below A0 (T601.setTop (mkF m 22 #[.val (.ref d), .val (.int (0 : Int32)), .val (.int fr), .val (.int to_), .val (.ref m0), .val (.int (fm0 (fr).toNatClampNeg))] [])) := fun tq kq => G598 tq (st601 _ kq)
  have G603 : Go p e below A0 (T601.setTop (mkF m 27 #[.val (.ref d), .val (.int (0 : Int32)), .val (.int fr), .val (.int to_), .val (.ref m0), .val (.int (fm0 (fr).toNatClampNeg))] [(.int (fm0 (fr).toNatClampNeg)), (.int to_), (.ref m0)])) := fun tq kq => G602 tq (by
    refine XS.aload X601.here hx rfl (hb hby d20_22) rfl rfl ?_
    show Steps p.tables e below (T601.setTop (mkF m 24 #[.val (.ref d), .val (.int (0 : Int32)), .val (.int fr), .val (.int to_), .val (.ref m0), .val (.int (fm0 (fr).toNatClampNeg))] [(.ref m0)])) _
    refine XS.iloadN X601.here hx rfl (hb hby d20_24) rfl ?_
    show Steps p.tables e below (T601.setTop (mkF m 25 #[.val (.ref d), .val (.int (0 : Int32)), .val (.int fr), .val (.int to_), .val (.ref m0), .val (.int (fm0 (fr).toNatClampNeg))] [(.int to_), (.ref m0)])) _
    refine XS.iload X601.here hx rfl (hb hby d20_25) rfl ?_
    show Steps p.tables e below (T601.setTop (mkF m 27 #[.val (.ref d), .val (.int (0 : Int32)), .val (.int fr), .val (.int to_), .val (.ref m0), .val (.int (fm0 (fr).toNatClampNeg))] [(.int (fm0 (fr).toNatClampNeg)), (.int to_), (.ref m0)])) _
    exact kq)
  obtain ⟨cl604, Ar604, q604, S604, M604, H604⟩ := id V601
  have hi605 : ¬ (to_ < 0 ∨ cl604.slots.size ≤ (to_).toNatClampNeg) := (inb_of S604 hto)
  obtain ⟨T606, h606, X606, e606, W606, st606⟩ := stI X601 hx hZ e601 Ar604 (j := to_) hi605 (g := (mkF m 27 #[.val (.ref d), .val (.int (0 : Int32)), .val (.int fr), .val (.int to_), .val (.ref m0), .val (.int (fm0 (fr).toNatClampNeg))] [(.int (fm0 (fr).toNatClampNeg)), (.int to_), (.ref m0)])) rfl rfl (hb hby d20_27)
  have N606 := Fr.snoc X606 N601 (show @LE.le Nat _ n0 m0 by omega)
  have V606 : Af Z h606 m0 cm0 .int (4 : Int32) (fun i => .int ((own_up (own_up fm0 (fr).toNatClampNeg (fm0 (to_).toNatClampNeg)) (to_).toNatClampNeg (fm0 (fr).toNatClampNeg)) i)) := (Af.set Ar604 q604 S604 M604 H604 W606 hi605).fn (fun j _ => own_upf _ _ _ _ rfl j)
  have G607 : Go p e below A0 (T606.setTop (mkF m 28 #[.val (.ref d), .val (.int (0 : Int32)), .val (.int fr), .val (.int to_), .val (.ref m0), .val (.int (fm0 (fr).toNatClampNeg))] [])) := fun tq kq => G603 tq (st606 _ kq)
  have G608 : Go p e below A0 (T606.setTop (mkF m 29 #[.val (.ref d), .val (.int (0 : Int32)), .val (.int fr), .val (.int to_), .val (.ref m0), .val (.int (fm0 (fr).toNatClampNeg))] [(.ref d)])) := fun tq kq => G607 tq (by
    refine XS.aloadN X606.here hx rfl (hb hby d20_28) rfl rfl ?_
    show Steps p.tables e below (T606.setTop (mkF m 29 #[.val (.ref d), .val (.int (0 : Int32)), .val (.int fr), .val (.int to_), .val (.ref m0), .val (.int (fm0 (fr).toNatClampNeg))] [(.ref d)])) _
    exact kq)
  have f609 := ((D2_.other W601 (Or.inl (show @Ne Nat d m0 by omega))).other W606 (Or.inl (show @Ne Nat d m0 by omega)))
  obtain ⟨T610, X610, e610, st610⟩ := getF X606 hx hZ hown (host := "") (Or.inl (hw _ (List.mem_of_getElem? (i := 106) rfl))) Via.refl e606 f609 (g := (mkF m 29 #[.val (.ref d), .val (.int (0 : Int32)), .val (.int fr), .val (.int to_), .val (.ref m0), .val (.int (fm0 (fr).toNatClampNeg))] [(.ref d)])) rfl rfl (hb hby d20_29)
  have G611 : Go p e below A0 (T610.setTop (mkF m 32 #[.val (.ref d), .val (.int (0 : Int32)), .val (.int fr), .val (.int to_), .val (.ref m0), .val (.int (fm0 (fr).toNatClampNeg))] [(.ref pos)])) := fun tq kq => G608 tq (st610 _ kq)
  have G612 : Go p e below A0 (T610.setTop (mkF m 33 #[.val (.ref d), .val (.int (0 : Int32)), .val (.int fr), .val (.int to_), .val (.ref m0), .val (.int (fm0 (fr).toNatClampNeg))] [(.int (0 : Int32)), (.ref pos)])) := fun tq kq => G611 tq (by
    refine XS.iloadN X610.here hx rfl (hb hby d20_32) rfl ?_
    show Steps p.tables e below (T610.setTop (mkF m 33 #[.val (.ref d), .val (.int (0 : Int32)), .val (.int fr), .val (.int to_), .val (.ref m0), .val (.int (fm0 (fr).toNatClampNeg))] [(.int (0 : Int32)), (.ref pos)])) _
    exact kq)
  have f613 := ((Apos.other W601 (show @Ne Nat pos m0 by omega)).other W606 (show @Ne Nat pos m0 by omega))
  obtain ⟨cl614, Ar614, q614, S614, M614, H614, Gf614⟩ := id f613
  have hi615 : ¬ ((0 : Int32) < 0 ∨ cl614.slots.size ≤ ((0 : Int32)).toNatClampNeg) := (inb_of S614 ⟨by decide, by decide⟩)
  have G616 : Go p e below A0 (T610.setTop (mkF m 37 #[.val (.ref d), .val (.int (0 : Int32)), .val (.int fr), .val (.int to_), .val (.ref m0), .val (.int (fm0 (fr).toNatClampNeg))] [(.int fr), (.ref m0), (.ref p0)])) := fun tq kq => G612 tq (by
    refine X610.aaload hx (j := (0 : Int32)) (v := (.ref p0)) (by rw [e610]; exact Ar614.1) (State.isArrayOf_alike hZ.alike Ar614.2.1) rfl Ar614.2.2 hi615 (H614.at hi615 rfl) (g := (mkF m 33 #[.val (.ref d), .val (.int (0 : Int32)), .val (.int fr), .val (.int to_), .val (.ref m0), .val (.int (fm0 (fr).toNatClampNeg))] [(.int (0 : Int32)), (.ref pos)])) rfl rfl (hb hby d20_33) _ ?_
    show Steps p.tables e below (T610.setTop (mkF m 34 #[.val (.ref d), .val (.int (0 : Int32)), .val (.int fr), .val (.int to_), .val (.ref m0), .val (.int (fm0 (fr).toNatClampNeg))] [(.ref p0)])) _
    refine XS.aload X610.here hx rfl (hb hby d20_34) rfl rfl ?_
    show Steps p.tables e below (T610.setTop (mkF m 36 #[.val (.ref d), .val (.int (0 : Int32)), .val (.int fr), .val (.int to_), .val (.ref m0), .val (.int (fm0 (fr).toNatClampNeg))] [(.ref m0), (.ref p0)])) _
    refine XS.iloadN X610.here hx rfl (hb hby d20_36) rfl ?_
    show Steps p.tables e below (T610.setTop (mkF m 37 #[.val (.ref d), .val (.int (0 : Int32)), .val (.int fr), .val (.int to_), .val (.ref m0), .val (.int (fm0 (fr).toNatClampNeg))] [(.int fr), (.ref m0), (.ref p0)])) _
    exact kq)
  obtain ⟨cl617, Ar617, q617, S617, M617, H617⟩ := id V606
  have hi618 : ¬ (fr < 0 ∨ cl617.slots.size ≤ (fr).toNatClampNeg) := (inb_of S617 hfr)
  have G619 : Go p e below A0 (T610.setTop (mkF m 39 #[.val (.ref d), .val (.int (0 : Int32)), .val (.int fr), .val (.int to_), .val (.ref m0), .val (.int (fm0 (fr).toNatClampNeg))] [(.int fr), (.int ((own_up (own_up fm0 (fr).toNatClampNeg (fm0 (to_).toNatClampNeg)) (to_).toNatClampNeg (fm0 (fr).toNatClampNeg)) (fr).toNatClampNeg)), (.ref p0)])) := fun tq kq => G616 tq (by
    refine X610.iaload hx (j := fr) (v := (.int ((own_up (own_up fm0 (fr).toNatClampNeg (fm0 (to_).toNatClampNeg)) (to_).toNatClampNeg (fm0 (fr).toNatClampNeg)) (fr).toNatClampNeg))) (by rw [e610]; exact Ar617.1) (State.isArrayOf_alike hZ.alike Ar617.2.1) Ar617.2.2 hi618 ((H617 _ (S617 ▸ Nat.lt_of_not_le fun y => hi618 (Or.inr y))).trans (congrArg some rfl)) (g := (mkF m 37 #[.val (.ref d), .val (.int (0 : Int32)), .val (.int fr), .val (.int to_), .val (.ref m0), .val (.int (fm0 (fr).toNatClampNeg))] [(.int fr), (.ref m0), (.ref p0)])) rfl rfl (hb hby d20_37) _ ?_
    show Steps p.tables e below (T610.setTop (mkF m 38 #[.val (.ref d), .val (.int (0 : Int32)), .val (.int fr), .val (.int to_), .val (.ref m0), .val (.int (fm0 (fr).toNatClampNeg))] [(.int ((own_up (own_up fm0 (fr).toNatClampNeg (fm0 (to_).toNatClampNeg)) (to_).toNatClampNeg (fm0 (fr).toNatClampNeg)) (fr).toNatClampNeg)), (.ref p0)])) _
    refine XS.iloadN X610.here hx rfl (hb hby d20_38) rfl ?_
    show Steps p.tables e below (T610.setTop (mkF m 39 #[.val (.ref d), .val (.int (0 : Int32)), .val (.int fr), .val (.int to_), .val (.ref m0), .val (.int (fm0 (fr).toNatClampNeg))] [(.int fr), (.int ((own_up (own_up fm0 (fr).toNatClampNeg (fm0 (to_).toNatClampNeg)) (to_).toNatClampNeg (fm0 (fr).toNatClampNeg)) (fr).toNatClampNeg)), (.ref p0)])) _
    exact kq)
  have f620 := ((Ap0.other W601 (Ne.symm (show @Ne Nat m0 p0 by omega))).other W606 (Ne.symm (show @Ne Nat m0 p0 by omega)))
  obtain ⟨cl621, Ar621, q621, S621, M621, H621⟩ := id f620
  have hi622 : ¬ (((own_up (own_up fm0 (fr).toNatClampNeg (fm0 (to_).toNatClampNeg)) (to_).toNatClampNeg (fm0 (fr).toNatClampNeg)) (fr).toNatClampNeg) < 0 ∨ cl621.slots.size ≤ (((own_up (own_up fm0 (fr).toNatClampNeg (fm0 (to_).toNatClampNeg)) (to_).toNatClampNeg (fm0 (fr).toNatClampNeg)) (fr).toNatClampNeg)).toNatClampNeg) := (inb_of S621 hx1)
  obtain ⟨T623, h623, X623, e623, W623, st623⟩ := stI X610 hx hZ e610 Ar621 (j := ((own_up (own_up fm0 (fr).toNatClampNeg (fm0 (to_).toNatClampNeg)) (to_).toNatClampNeg (fm0 (fr).toNatClampNeg)) (fr).toNatClampNeg)) hi622 (g := (mkF m 39 #[.val (.ref d), .val (.int (0 : Int32)), .val (.int fr), .val (.int to_), .val (.ref m0), .val (.int (fm0 (fr).toNatClampNeg))] [(.int fr), (.int ((own_up (own_up fm0 (fr).toNatClampNeg (fm0 (to_).toNatClampNeg)) (to_).toNatClampNeg (fm0 (fr).toNatClampNeg)) (fr).toNatClampNeg)), (.ref p0)])) rfl rfl (hb hby d20_39)
  have N623 := Fr.snoc X623 N606 (show @LE.le Nat _ n0 p0 by omega)
  have V623 : Af Z h623 p0 cp0 .int (4 : Int32) (fun i => .int ((own_up fp0 (((own_up (own_up fm0 (fr).toNatClampNeg (fm0 (to_).toNatClampNeg)) (to_).toNatClampNeg (fm0 (fr).toNatClampNeg)) (fr).toNatClampNeg)).toNatClampNeg fr) i)) := (Af.set Ar621 q621 S621 M621 H621 W623 hi622).fn (fun j _ => own_upf _ _ _ _ rfl j)
  have G624 : Go p e below A0 (T623.setTop (mkF m 40 #[.val (.ref d), .val (.int (0 : Int32)), .val (.int fr), .val (.int to_), .val (.ref m0), .val (.int (fm0 (fr).toNatClampNeg))] [])) := fun tq kq => G619 tq (st623 _ kq)
  have G625 : Go p e below A0 (T623.setTop (mkF m 41 #[.val (.ref d), .val (.int (0 : Int32)), .val (.int fr), .val (.int to_), .val (.ref m0), .val (.int (fm0 (fr).toNatClampNeg))] [(.ref d)])) := fun tq kq => G624 tq (by
    refine XS.aloadN X623.here hx rfl (hb hby d20_40) rfl rfl ?_
    show Steps p.tables e below (T623.setTop (mkF m 41 #[.val (.ref d), .val (.int (0 : Int32)), .val (.int fr), .val (.int to_), .val (.ref m0), .val (.int (fm0 (fr).toNatClampNeg))] [(.ref d)])) _
    exact kq)
  have f626 := (f609.other W623 (Or.inl (show @Ne Nat d p0 by omega)))
  obtain ⟨T627, X627, e627, st627⟩ := getF X623 hx hZ hown (host := "") (Or.inl (hw _ (List.mem_of_getElem? (i := 106) rfl))) Via.refl e623 f626 (g := (mkF m 41 #[.val (.ref d), .val (.int (0 : Int32)), .val (.int fr), .val (.int to_), .val (.ref m0), .val (.int (fm0 (fr).toNatClampNeg))] [(.ref d)])) rfl rfl (hb hby d20_41)
  have G628 : Go p e below A0 (T627.setTop (mkF m 44 #[.val (.ref d), .val (.int (0 : Int32)), .val (.int fr), .val (.int to_), .val (.ref m0), .val (.int (fm0 (fr).toNatClampNeg))] [(.ref pos)])) := fun tq kq => G625 tq (st627 _ kq)
  have G629 : Go p e below A0 (T627.setTop (mkF m 45 #[.val (.ref d), .val (.int (0 : Int32)), .val (.int fr), .val (.int to_), .val (.ref m0), .val (.int (fm0 (fr).toNatClampNeg))] [(.int (0 : Int32)), (.ref pos)])) := fun tq kq => G628 tq (by
    refine XS.iloadN X627.here hx rfl (hb hby d20_44) rfl ?_
    show Steps p.tables e below (T627.setTop (mkF m 45 #[.val (.ref d), .val (.int (0 : Int32)), .val (.int fr), .val (.int to_), .val (.ref m0), .val (.int (fm0 (fr).toNatClampNeg))] [(.int (0 : Int32)), (.ref pos)])) _
    exact kq)
  have f630 := (f613.other W623 (show @Ne Nat pos p0 by omega))
  obtain ⟨cl631, Ar631, q631, S631, M631, H631, Gf631⟩ := id f630
  have hi632 : ¬ ((0 : Int32) < 0 ∨ cl631.slots.size ≤ ((0 : Int32)).toNatClampNeg) := (inb_of S631 ⟨by decide, by decide⟩)
  have G633 : Go p e below A0 (T627.setTop (mkF m 49 #[.val (.ref d), .val (.int (0 : Int32)), .val (.int fr), .val (.int to_), .val (.ref m0), .val (.int (fm0 (fr).toNatClampNeg))] [(.int to_), (.int (fm0 (fr).toNatClampNeg)), (.ref p0)])) := fun tq kq => G629 tq (by
    refine X627.aaload hx (j := (0 : Int32)) (v := (.ref p0)) (by rw [e627]; exact Ar631.1) (State.isArrayOf_alike hZ.alike Ar631.2.1) rfl Ar631.2.2 hi632 (H631.at hi632 rfl) (g := (mkF m 45 #[.val (.ref d), .val (.int (0 : Int32)), .val (.int fr), .val (.int to_), .val (.ref m0), .val (.int (fm0 (fr).toNatClampNeg))] [(.int (0 : Int32)), (.ref pos)])) rfl rfl (hb hby d20_45) _ ?_
    show Steps p.tables e below (T627.setTop (mkF m 46 #[.val (.ref d), .val (.int (0 : Int32)), .val (.int fr), .val (.int to_), .val (.ref m0), .val (.int (fm0 (fr).toNatClampNeg))] [(.ref p0)])) _
    refine XS.iload X627.here hx rfl (hb hby d20_46) rfl ?_
    show Steps p.tables e below (T627.setTop (mkF m 48 #[.val (.ref d), .val (.int (0 : Int32)), .val (.int fr), .val (.int to_), .val (.ref m0), .val (.int (fm0 (fr).toNatClampNeg))] [(.int (fm0 (fr).toNatClampNeg)), (.ref p0)])) _
    refine XS.iloadN X627.here hx rfl (hb hby d20_48) rfl ?_
    show Steps p.tables e below (T627.setTop (mkF m 49 #[.val (.ref d), .val (.int (0 : Int32)), .val (.int fr), .val (.int to_), .val (.ref m0), .val (.int (fm0 (fr).toNatClampNeg))] [(.int to_), (.int (fm0 (fr).toNatClampNeg)), (.ref p0)])) _
    exact kq)
  obtain ⟨cl634, Ar634, q634, S634, M634, H634⟩ := id V623
  have hi635 : ¬ ((fm0 (fr).toNatClampNeg) < 0 ∨ cl634.slots.size ≤ ((fm0 (fr).toNatClampNeg)).toNatClampNeg) := (inb_of S634 hx0)
  obtain ⟨T636, h636, X636, e636, W636, st636⟩ := stI X627 hx hZ e627 Ar634 (j := (fm0 (fr).toNatClampNeg)) hi635 (g := (mkF m 49 #[.val (.ref d), .val (.int (0 : Int32)), .val (.int fr), .val (.int to_), .val (.ref m0), .val (.int (fm0 (fr).toNatClampNeg))] [(.int to_), (.int (fm0 (fr).toNatClampNeg)), (.ref p0)])) rfl rfl (hb hby d20_49)
  have N636 := Fr.snoc X636 N623 (show @LE.le Nat _ n0 p0 by omega)
  have V636 : Af Z h636 p0 cp0 .int (4 : Int32) (fun i => .int ((own_up (own_up fp0 (((own_up (own_up fm0 (fr).toNatClampNeg (fm0 (to_).toNatClampNeg)) (to_).toNatClampNeg (fm0 (fr).toNatClampNeg)) (fr).toNatClampNeg)).toNatClampNeg fr) ((fm0 (fr).toNatClampNeg)).toNatClampNeg to_) i)) := (Af.set Ar634 q634 S634 M634 H634 W636 hi635).fn (fun j _ => own_upf _ _ _ _ rfl j)
  have G637 : Go p e below A0 (T636.setTop (mkF m 50 #[.val (.ref d), .val (.int (0 : Int32)), .val (.int fr), .val (.int to_), .val (.ref m0), .val (.int (fm0 (fr).toNatClampNeg))] [])) := fun tq kq => G633 tq (st636 _ kq)
  have f638 := ((((D0_.other W601 (Or.inl (show @Ne Nat d m0 by omega))).other W606 (Or.inl (show @Ne Nat d m0 by omega))).other W623 (Or.inl (show @Ne Nat d p0 by omega))).other W636 (Or.inl (show @Ne Nat d p0 by omega)))
  have f639 := ((((D1_.other W601 (Or.inl (show @Ne Nat d m0 by omega))).other W606 (Or.inl (show @Ne Nat d m0 by omega))).other W623 (Or.inl (show @Ne Nat d p0 by omega))).other W636 (Or.inl (show @Ne Nat d p0 by omega)))
  have f640 := (f626.other W636 (Or.inl (show @Ne Nat d p0 by omega)))
  have f641 := ((((D3_.other W601 (Or.inl (show @Ne Nat d m0 by omega))).other W606 (Or.inl (show @Ne Nat d m0 by omega))).other W623 (Or.inl (show @Ne Nat d p0 by omega))).other W636 (Or.inl (show @Ne Nat d p0 by omega)))
  have f642 := ((((D4_.other W601 (Or.inl (show @Ne Nat d m0 by omega))).other W606 (Or.inl (show @Ne Nat d m0 by omega))).other W623 (Or.inl (show @Ne Nat d p0 by omega))).other W636 (Or.inl (show @Ne Nat d p0 by omega)))
  have f643 := ((((Ed.wr W601).wr W606).wr W623).wr W636)
  have f644 := ((((Amem.other W601 (show @Ne Nat mem m0 by omega)).other W606 (show @Ne Nat mem m0 by omega)).other W623 (show @Ne Nat mem p0 by omega)).other W636 (show @Ne Nat mem p0 by omega))
  have f645 := (f630.other W636 (show @Ne Nat pos p0 by omega))
  have f646 := ((((Asiz.other W601 (show @Ne Nat siz m0 by omega)).other W606 (show @Ne Nat siz m0 by omega)).other W623 (show @Ne Nat siz p0 by omega)).other W636 (show @Ne Nat siz p0 by omega))
  have f647 := ((((Amrk.other W601 (show @Ne Nat mrk m0 by omega)).other W606 (show @Ne Nat mrk m0 by omega)).other W623 (show @Ne Nat mrk p0 by omega)).other W636 (show @Ne Nat mrk p0 by omega))
  have f648 := ((V606.other W623 (show @Ne Nat m0 p0 by omega)).other W636 (show @Ne Nat m0 p0 by omega))
  have f649 := ((((Ak0.other W601 (Ne.symm (show @Ne Nat m0 k0 by omega))).other W606 (Ne.symm (show @Ne Nat m0 k0 by omega))).other W623 (Ne.symm (show @Ne Nat p0 k0 by omega))).other W636 (Ne.symm (show @Ne Nat p0 k0 by omega)))
  have f650 := ((((Am1.other W601 (Ne.symm (show @Ne Nat m0 m1 by omega))).other W606 (Ne.symm (show @Ne Nat m0 m1 by omega))).other W623 (Ne.symm (show @Ne Nat p0 m1 by omega))).other W636 (Ne.symm (show @Ne Nat p0 m1 by omega)))
  have f651 := ((((Ap1.other W601 (Ne.symm (show @Ne Nat m0 p1 by omega))).other W606 (Ne.symm (show @Ne Nat m0 p1 by omega))).other W623 (Ne.symm (show @Ne Nat p0 p1 by omega))).other W636 (Ne.symm (show @Ne Nat p0 p1 by omega)))
  have f652 := ((((Ak1.other W601 (Ne.symm (show @Ne Nat m0 k1 by omega))).other W606 (Ne.symm (show @Ne Nat m0 k1 by omega))).other W623 (Ne.symm (show @Ne Nat p0 k1 by omega))).other W636 (Ne.symm (show @Ne Nat p0 k1 by omega)))
  obtain ⟨fs, hr, hrun, hended, hW, hsame⟩ := X636.leave (v := none) (fun _ => rfl)
  refine ⟨_, _, (by rw [← hA0]; exact G637 _ (X636.returnOut hx Bd.returns (hb hby d20_50) hr)), hrun, hended, _, _, rfl, ?_, ⟨_, rfl⟩, hW, hsame.mono (by decide) (by decide)⟩
  show Qs0 Z d mem pos siz mrk m0 p0 k0 m1 p1 k1 rd fsz fm0 fp0 fk0 fm1 fp1 fk1 fr to_ h0 n0 _ T636.heap _
  rw [e636]
  exact ⟨rfl, N636, (((((Keep.refl h0 [m0, p0]).wr W601 (Or.inl (List.mem_of_getElem? (i := 0) rfl))).wr W606 (Or.inl (List.mem_of_getElem? (i := 0) rfl))).wr W623 (Or.inl (List.mem_of_getElem? (i := 1) rfl))).wr W636 (Or.inl (List.mem_of_getElem? (i := 1) rfl))), ⟨f643, f638, f639, f640, f641, f642, ⟨_, f644⟩, ⟨_, f645⟩, ⟨_, f647⟩, ⟨_, f646⟩, ⟨_, f648⟩, ⟨_, V636⟩, ⟨_, f649⟩, ⟨_, f650⟩, ⟨_, f651⟩, ⟨_, f652⟩⟩⟩
def Qs1 (Z : State) (d mem pos siz mrk m0 p0 k0 m1 p1 k1 : Addr) (rd : Int32) (fsz fm0 fp0 fk0 fm1 fp1 fk1 : Nat → Int32) (fr to_ : Int32) (h0 : Heap) (n0 : Nat) (v : Option Value) (h : Heap) (L : List Loc) : Prop := v = none ∧ Fr n0 L ∧ Keep h0 h [m1, p1] ∧ Dom Z h d mem pos siz mrk m0 p0 k0 m1 p1 k1 rd (fsz) (fm0) (fp0) (fk0) (own_sm fm1 fr to_) (own_sp fm1 fp1 fr to_) (fk1)
set_option maxRecDepth 65536 in
set_option maxHeartbeats 40000000 in
theorem rmS1 (l : Launch) (Z : State) (a0 : Array Value) (hw : ∀ d ∈ tables_1, d.before a0 Z = true) (ws : List Jvm.Cond) (d mem pos siz mrk m0 p0 k0 m1 p1 k1 : Addr) (rd : Int32) (fsz fm0 fp0 fk0 fm1 fp1 fk1 : Nat → Int32) (fr to_ : Int32) (h0 : Heap) (n0 : Nat) (Z0 : n0 ≤ h0.size) (hord : Ord n0 d mem pos siz mrk m0 p0 k0 m1 p1 k1) (hdom : Dom Z h0 d mem pos siz mrk m0 p0 k0 m1 p1 k1 rd (fsz) (fm0) (fp0) (fk0) (fm1) (fp1) (fk1)) (hfr : ¬ fr < 0 ∧ fr < (2 : Int32)) (hto : ¬ to_ < 0 ∧ to_ < (2 : Int32)) (hx0 : ¬ (fm1 fr.toNatClampNeg) < 0 ∧ (fm1 fr.toNatClampNeg) < (2 : Int32)) (hx1 : ¬ (own_sm fm1 fr to_ fr.toNatClampNeg) < 0 ∧ (own_sm fm1 fr to_ fr.toNatClampNeg) < (2 : Int32)) :
    MetFree l (⟨"com/example/ludarc/ludarc/engine/Domains", "swap", "(III)V"⟩ : MethodName) (head1 (Jvm.Cond.code (⟨"com/example/ludarc/ludarc/engine/Domains", "swap", "(III)V"⟩ : MethodName) prog_5_method_14_code 6 none :: ws) ({ frames := 0, cells := 0, slots := 0, locals := 0 } : Room)) (fun aa UU => aa = #[(.ref d), (.int (1 : Int32)), (.int fr), (.int to_)] ∧ Z.Warmed39 UU.vm ∧ UU.heap = h0) (fun _ _ _ _ _ => True) (fun _ UU oo U' => ∃ v L, oo = .returned v ∧ Qs1 Z d mem pos siz mrk m0 p0 k0 m1 p1 k1 rd fsz fm0 fp0 fk0 fm1 fp1 fk1 fr to_ h0 n0 v U'.heap L ∧ FrameEnd UU oo U' L ({ frames := 0, cells := 0, slots := 0, locals := 0 } : Room).cells ({ frames := 0, cells := 0, slots := 0, locals := 0 } : Room).slots) := by
  refine MetFree.of_bodySF (plainFor_of_name pn_6) hisR ?_
  intro p e s m args below meth c s₁ Bd hml0 hP hK
  obtain ⟨rfl, hZ, hh⟩ := hP
  have hx := Bd.exec
  have hby := Bd.bytes
  have hml : c.maxLocals = 6 := hml0
  have hown : s.vm.findClass "com/example/ludarc/ludarc/engine/Domains" = some m.cls := findClass_of_methodNamed Bd.named
  have hnm := (name_of_methodNamed Bd.named Bd.method).1
  have X0 : Stand p l e ({ frames := 0, cells := 0, slots := 0, locals := 0 } : Room) s m #[(.ref d), (.int (1 : Int32)), (.int fr), (.int to_)] below meth c s₁ [] 0 0 := Stand.of_body Bd
  have e0 : s₁.heap = h0 := by rw [← hh, Bd.state]; rfl
  have N0 := Fr.nil n0
  obtain ⟨A0, hA0⟩ : ∃ A, A = s₁.setTop (entryFrame m #[(.ref d), (.int (1 : Int32)), (.int fr), (.int to_)] 6) := ⟨_, rfl⟩
  have G0 : Go p e below A0 (s₁.setTop (mkF m 0 #[.val (.ref d), .val (.int (1 : Int32)), .val (.int fr), .val (.int to_), .unset, .unset] [])) := fun tq kq => by rw [hA0]; exact castTop (ef_rmS1 m d (1 : Int32) fr to_) kq
  obtain ⟨o0, o1, o2, o3, o4, o5, o6, o7, o8, o9, o10⟩ := hord
  obtain ⟨Ed, D0_, D1_, D2_, D3_, D4_, ⟨cmem, Amem⟩, ⟨cpos, Apos⟩, ⟨cmrk, Amrk⟩, ⟨csiz, Asiz⟩, ⟨cm0, Am0⟩, ⟨cp0, Ap0⟩, ⟨ck0, Ak0⟩, ⟨cm1, Am1⟩, ⟨cp1, Ap1⟩, ⟨ck1, Ak1⟩⟩ := hdom
  have G653 : Go p e below A0 (s₁.setTop (mkF m 1 #[.val (.ref d), .val (.int (1 : Int32)), .val (.int fr), .val (.int to_), .unset, .unset] [(.ref d)])) := fun tq kq => G0 tq (by
    refine XS.aloadN X0.here hx rfl (hb hby d20_0) rfl rfl ?_
    show Steps p.tables e below (s₁.setTop (mkF m 1 #[.val (.ref d), .val (.int (1 : Int32)), .val (.int fr), .val (.int to_), .unset, .unset] [(.ref d)])) _
    exact kq)
  obtain ⟨T654, X654, e654, st654⟩ := getF X0 hx hZ hown (host := "") (Or.inl (hw _ (List.mem_of_getElem? (i := 104) rfl))) Via.refl e0 D1_ (g := (mkF m 1 #[.val (.ref d), .val (.int (1 : Int32)), .val (.int fr), .val (.int to_), .unset, .unset] [(.ref d)])) rfl rfl (hb hby d20_1)
  have G655 : Go p e below A0 (T654.setTop (mkF m 4 #[.val (.ref d), .val (.int (1 : Int32)), .val (.int fr), .val (.int to_), .unset, .unset] [(.ref mem)])) := fun tq kq => G653 tq (st654 _ kq)
  have G656 : Go p e below A0 (T654.setTop (mkF m 5 #[.val (.ref d), .val (.int (1 : Int32)), .val (.int fr), .val (.int to_), .unset, .unset] [(.int (1 : Int32)), (.ref mem)])) := fun tq kq => G655 tq (by
    refine XS.iloadN X654.here hx rfl (hb hby d20_4) rfl ?_
    show Steps p.tables e below (T654.setTop (mkF m 5 #[.val (.ref d), .val (.int (1 : Int32)), .val (.int fr), .val (.int to_), .unset, .unset] [(.int (1 : Int32)), (.ref mem)])) _
    exact kq)
  obtain ⟨cl657, Ar657, q657, S657, M657, H657, Gf657⟩ := id Amem
  have hi658 : ¬ ((1 : Int32) < 0 ∨ cl657.slots.size ≤ ((1 : Int32)).toNatClampNeg) := (inb_of S657 ⟨by decide, by decide⟩)
  have G659 : Go p e below A0 (T654.setTop (mkF m 11 #[.val (.ref d), .val (.int (1 : Int32)), .val (.int fr), .val (.int to_), .val (.ref m1), .unset] [(.int fr), (.ref m1)])) := fun tq kq => G656 tq (by
    refine X654.aaload hx (j := (1 : Int32)) (v := (.ref m1)) (by rw [e654]; exact Ar657.1) (State.isArrayOf_alike hZ.alike Ar657.2.1) rfl Ar657.2.2 hi658 (H657.at hi658 rfl) (g := (mkF m 5 #[.val (.ref d), .val (.int (1 : Int32)), .val (.int fr), .val (.int to_), .unset, .unset] [(.int (1 : Int32)), (.ref mem)])) rfl rfl (hb hby d20_5) _ ?_
    show Steps p.tables e below (T654.setTop (mkF m 6 #[.val (.ref d), .val (.int (1 : Int32)), .val (.int fr), .val (.int to_), .unset, .unset] [(.ref m1)])) _
    refine XS.astore X654.here hx rfl (hb hby d20_6) rfl rfl (l' := #[.val (.ref d), .val (.int (1 : Int32)), .val (.int fr), .val (.int to_), .val (.ref m1), .unset]) rfl ?_
    show Steps p.tables e below (T654.setTop (mkF m 8 #[.val (.ref d), .val (.int (1 : Int32)), .val (.int fr), .val (.int to_), .val (.ref m1), .unset] [])) _
    refine XS.aload X654.here hx rfl (hb hby d20_8) rfl rfl ?_
    show Steps p.tables e below (T654.setTop (mkF m 10 #[.val (.ref d), .val (.int (1 : Int32)), .val (.int fr), .val (.int to_), .val (.ref m1), .unset] [(.ref m1)])) _
    refine XS.iloadN X654.here hx rfl (hb hby d20_10) rfl ?_
    show Steps p.tables e below (T654.setTop (mkF m 11 #[.val (.ref d), .val (.int (1 : Int32)), .val (.int fr), .val (.int to_), .val (.ref m1), .unset] [(.int fr), (.ref m1)])) _
    exact kq)
  obtain ⟨cl660, Ar660, q660, S660, M660, H660⟩ := id Am1
  have hi661 : ¬ (fr < 0 ∨ cl660.slots.size ≤ (fr).toNatClampNeg) := (inb_of S660 hfr)
  have G662 : Go p e below A0 (T654.setTop (mkF m 20 #[.val (.ref d), .val (.int (1 : Int32)), .val (.int fr), .val (.int to_), .val (.ref m1), .val (.int (fm1 (fr).toNatClampNeg))] [(.int to_), (.ref m1), (.int fr), (.ref m1)])) := fun tq kq => G659 tq (by
    refine X654.iaload hx (j := fr) (v := (.int (fm1 (fr).toNatClampNeg))) (by rw [e654]; exact Ar660.1) (State.isArrayOf_alike hZ.alike Ar660.2.1) Ar660.2.2 hi661 ((H660 _ (S660 ▸ Nat.lt_of_not_le fun y => hi661 (Or.inr y))).trans (congrArg some rfl)) (g := (mkF m 11 #[.val (.ref d), .val (.int (1 : Int32)), .val (.int fr), .val (.int to_), .val (.ref m1), .unset] [(.int fr), (.ref m1)])) rfl rfl (hb hby d20_11) _ ?_
    show Steps p.tables e below (T654.setTop (mkF m 12 #[.val (.ref d), .val (.int (1 : Int32)), .val (.int fr), .val (.int to_), .val (.ref m1), .unset] [(.int (fm1 (fr).toNatClampNeg))])) _
    refine XS.istore X654.here hx rfl (hb hby d20_12) rfl (l' := #[.val (.ref d), .val (.int (1 : Int32)), .val (.int fr), .val (.int to_), .val (.ref m1), .val (.int (fm1 (fr).toNatClampNeg))]) rfl ?_
    show Steps p.tables e below (T654.setTop (mkF m 14 #[.val (.ref d), .val (.int (1 : Int32)), .val (.int fr), .val (.int to_), .val (.ref m1), .val (.int (fm1 (fr).toNatClampNeg))] [])) _
    refine XS.aload X654.here hx rfl (hb hby d20_14) rfl rfl ?_
    show Steps p.tables e below (T654.setTop (mkF m 16 #[.val (.ref d), .val (.int (1 : Int32)), .val (.int fr), .val (.int to_), .val (.ref m1), .val (.int (fm1 (fr).toNatClampNeg))] [(.ref m1)])) _
    refine XS.iloadN X654.here hx rfl (hb hby d20_16) rfl ?_
    show Steps p.tables e below (T654.setTop (mkF m 17 #[.val (.ref d), .val (.int (1 : Int32)), .val (.int fr), .val (.int to_), .val (.ref m1), .val (.int (fm1 (fr).toNatClampNeg))] [(.int fr), (.ref m1)])) _
    refine XS.aload X654.here hx rfl (hb hby d20_17) rfl rfl ?_
    show Steps p.tables e below (T654.setTop (mkF m 19 #[.val (.ref d), .val (.int (1 : Int32)), .val (.int fr), .val (.int to_), .val (.ref m1), .val (.int (fm1 (fr).toNatClampNeg))] [(.ref m1), (.int fr), (.ref m1)])) _
    refine XS.iloadN X654.here hx rfl (hb hby d20_19) rfl ?_
    show Steps p.tables e below (T654.setTop (mkF m 20 #[.val (.ref d), .val (.int (1 : Int32)), .val (.int fr), .val (.int to_), .val (.ref m1), .val (.int (fm1 (fr).toNatClampNeg))] [(.int to_), (.ref m1), (.int fr), (.ref m1)])) _
    exact kq)
  obtain ⟨cl663, Ar663, q663, S663, M663, H663⟩ := id Am1
  have hi664 : ¬ (to_ < 0 ∨ cl663.slots.size ≤ (to_).toNatClampNeg) := (inb_of S663 hto)
  have G665 : Go p e below A0 (T654.setTop (mkF m 21 #[.val (.ref d), .val (.int (1 : Int32)), .val (.int fr), .val (.int to_), .val (.ref m1), .val (.int (fm1 (fr).toNatClampNeg))] [(.int (fm1 (to_).toNatClampNeg)), (.int fr), (.ref m1)])) := fun tq kq => G662 tq (by
    refine X654.iaload hx (j := to_) (v := (.int (fm1 (to_).toNatClampNeg))) (by rw [e654]; exact Ar663.1) (State.isArrayOf_alike hZ.alike Ar663.2.1) Ar663.2.2 hi664 ((H663 _ (S663 ▸ Nat.lt_of_not_le fun y => hi664 (Or.inr y))).trans (congrArg some rfl)) (g := (mkF m 20 #[.val (.ref d), .val (.int (1 : Int32)), .val (.int fr), .val (.int to_), .val (.ref m1), .val (.int (fm1 (fr).toNatClampNeg))] [(.int to_), (.ref m1), (.int fr), (.ref m1)])) rfl rfl (hb hby d20_20) _ ?_
    show Steps p.tables e below (T654.setTop (mkF m 21 #[.val (.ref d), .val (.int (1 : Int32)), .val (.int fr), .val (.int to_), .val (.ref m1), .val (.int (fm1 (fr).toNatClampNeg))] [(.int (fm1 (to_).toNatClampNeg)), (.int fr), (.ref m1)])) _
    exact kq)
  obtain ⟨cl666, Ar666, q666, S666, M666, H666⟩ := id Am1
  have hi667 : ¬ (fr < 0 ∨ cl666.slots.size ≤ (fr).toNatClampNeg) := (inb_of S666 hfr)
  obtain ⟨T668, h668, X668, e668, W668, st668⟩ := stI X654 hx hZ e654 Ar666 (j := fr) hi667 (g := (mkF m 21 #[.val (.ref d), .val (.int (1 : Int32)), .val (.int fr), .val (.int to_), .val (.ref m1), .val (.int (fm1 (fr).toNatClampNeg))] [(.int (fm1 (to_).toNatClampNeg)), (.int fr), (.ref m1)])) rfl rfl (hb hby d20_21)
  have N668 := Fr.snoc X668 N0 (show @LE.le Nat _ n0 m1 by omega)
  have V668 : Af Z h668 m1 cm1 .int (2 : Int32) (fun i => .int ((own_up fm1 (fr).toNatClampNeg (fm1 (to_).toNatClampNeg)) i)) := (Af.set Ar666 q666 S666 M666 H666 W668 hi667).fn (fun j _ => own_upf _ _ _ _ rfl j)
  have G669 : Go p e below A0 (T668.setTop (mkF m 22 #[.val (.ref d), .val (.int (1 : Int32)), .val (.int fr), .val (.int to_), .val (.ref m1), .val (.int (fm1 (fr).toNatClampNeg))] [])) := fun tq kq => G665 tq (st668 _ kq)
  have G670 : Go p e below A0 (T668.setTop (mkF m 27 #[.val (.ref d), .val (.int (1 : Int32)), .val (.int fr), .val (.int to_), .val (.ref m1), .val (.int (fm1 (fr).toNatClampNeg))] [(.int (fm1 (fr).toNatClampNeg)), (.int to_), (.ref m1)])) := fun tq kq => G669 tq (by
    refine XS.aload X668.here hx rfl (hb hby d20_22) rfl rfl ?_
    show Steps p.tables e below (T668.setTop (mkF m 24 #[.val (.ref d), .val (.int (1 : Int32)), .val (.int fr), .val (.int to_), .val (.ref m1), .val (.int (fm1 (fr).toNatClampNeg))] [(.ref m1)])) _
    refine XS.iloadN X668.here hx rfl (hb hby d20_24) rfl ?_
    show Steps p.tables e below (T668.setTop (mkF m 25 #[.val (.ref d), .val (.int (1 : Int32)), .val (.int fr), .val (.int to_), .val (.ref m1), .val (.int (fm1 (fr).toNatClampNeg))] [(.int to_), (.ref m1)])) _
    refine XS.iload X668.here hx rfl (hb hby d20_25) rfl ?_
    show Steps p.tables e below (T668.setTop (mkF m 27 #[.val (.ref d), .val (.int (1 : Int32)), .val (.int fr), .val (.int to_), .val (.ref m1), .val (.int (fm1 (fr).toNatClampNeg))] [(.int (fm1 (fr).toNatClampNeg)), (.int to_), (.ref m1)])) _
    exact kq)
  obtain ⟨cl671, Ar671, q671, S671, M671, H671⟩ := id V668
  have hi672 : ¬ (to_ < 0 ∨ cl671.slots.size ≤ (to_).toNatClampNeg) := (inb_of S671 hto)
  obtain ⟨T673, h673, X673, e673, W673, st673⟩ := stI X668 hx hZ e668 Ar671 (j := to_) hi672 (g := (mkF m 27 #[.val (.ref d), .val (.int (1 : Int32)), .val (.int fr), .val (.int to_), .val (.ref m1), .val (.int (fm1 (fr).toNatClampNeg))] [(.int (fm1 (fr).toNatClampNeg)), (.int to_), (.ref m1)])) rfl rfl (hb hby d20_27)
  have N673 := Fr.snoc X673 N668 (show @LE.le Nat _ n0 m1 by omega)
  have V673 : Af Z h673 m1 cm1 .int (2 : Int32) (fun i => .int ((own_up (own_up fm1 (fr).toNatClampNeg (fm1 (to_).toNatClampNeg)) (to_).toNatClampNeg (fm1 (fr).toNatClampNeg)) i)) := (Af.set Ar671 q671 S671 M671 H671 W673 hi672).fn (fun j _ => own_upf _ _ _ _ rfl j)
  have G674 : Go p e below A0 (T673.setTop (mkF m 28 #[.val (.ref d), .val (.int (1 : Int32)), .val (.int fr), .val (.int to_), .val (.ref m1), .val (.int (fm1 (fr).toNatClampNeg))] [])) := fun tq kq => G670 tq (st673 _ kq)
  have G675 : Go p e below A0 (T673.setTop (mkF m 29 #[.val (.ref d), .val (.int (1 : Int32)), .val (.int fr), .val (.int to_), .val (.ref m1), .val (.int (fm1 (fr).toNatClampNeg))] [(.ref d)])) := fun tq kq => G674 tq (by
    refine XS.aloadN X673.here hx rfl (hb hby d20_28) rfl rfl ?_
    show Steps p.tables e below (T673.setTop (mkF m 29 #[.val (.ref d), .val (.int (1 : Int32)), .val (.int fr), .val (.int to_), .val (.ref m1), .val (.int (fm1 (fr).toNatClampNeg))] [(.ref d)])) _
    exact kq)
  have f676 := ((D2_.other W668 (Or.inl (show @Ne Nat d m1 by omega))).other W673 (Or.inl (show @Ne Nat d m1 by omega)))
  obtain ⟨T677, X677, e677, st677⟩ := getF X673 hx hZ hown (host := "") (Or.inl (hw _ (List.mem_of_getElem? (i := 106) rfl))) Via.refl e673 f676 (g := (mkF m 29 #[.val (.ref d), .val (.int (1 : Int32)), .val (.int fr), .val (.int to_), .val (.ref m1), .val (.int (fm1 (fr).toNatClampNeg))] [(.ref d)])) rfl rfl (hb hby d20_29)
  have G678 : Go p e below A0 (T677.setTop (mkF m 32 #[.val (.ref d), .val (.int (1 : Int32)), .val (.int fr), .val (.int to_), .val (.ref m1), .val (.int (fm1 (fr).toNatClampNeg))] [(.ref pos)])) := fun tq kq => G675 tq (st677 _ kq)
  have G679 : Go p e below A0 (T677.setTop (mkF m 33 #[.val (.ref d), .val (.int (1 : Int32)), .val (.int fr), .val (.int to_), .val (.ref m1), .val (.int (fm1 (fr).toNatClampNeg))] [(.int (1 : Int32)), (.ref pos)])) := fun tq kq => G678 tq (by
    refine XS.iloadN X677.here hx rfl (hb hby d20_32) rfl ?_
    show Steps p.tables e below (T677.setTop (mkF m 33 #[.val (.ref d), .val (.int (1 : Int32)), .val (.int fr), .val (.int to_), .val (.ref m1), .val (.int (fm1 (fr).toNatClampNeg))] [(.int (1 : Int32)), (.ref pos)])) _
    exact kq)
  have f680 := ((Apos.other W668 (show @Ne Nat pos m1 by omega)).other W673 (show @Ne Nat pos m1 by omega))
  obtain ⟨cl681, Ar681, q681, S681, M681, H681, Gf681⟩ := id f680
  have hi682 : ¬ ((1 : Int32) < 0 ∨ cl681.slots.size ≤ ((1 : Int32)).toNatClampNeg) := (inb_of S681 ⟨by decide, by decide⟩)
  have G683 : Go p e below A0 (T677.setTop (mkF m 37 #[.val (.ref d), .val (.int (1 : Int32)), .val (.int fr), .val (.int to_), .val (.ref m1), .val (.int (fm1 (fr).toNatClampNeg))] [(.int fr), (.ref m1), (.ref p1)])) := fun tq kq => G679 tq (by
    refine X677.aaload hx (j := (1 : Int32)) (v := (.ref p1)) (by rw [e677]; exact Ar681.1) (State.isArrayOf_alike hZ.alike Ar681.2.1) rfl Ar681.2.2 hi682 (H681.at hi682 rfl) (g := (mkF m 33 #[.val (.ref d), .val (.int (1 : Int32)), .val (.int fr), .val (.int to_), .val (.ref m1), .val (.int (fm1 (fr).toNatClampNeg))] [(.int (1 : Int32)), (.ref pos)])) rfl rfl (hb hby d20_33) _ ?_
    show Steps p.tables e below (T677.setTop (mkF m 34 #[.val (.ref d), .val (.int (1 : Int32)), .val (.int fr), .val (.int to_), .val (.ref m1), .val (.int (fm1 (fr).toNatClampNeg))] [(.ref p1)])) _
    refine XS.aload X677.here hx rfl (hb hby d20_34) rfl rfl ?_
    show Steps p.tables e below (T677.setTop (mkF m 36 #[.val (.ref d), .val (.int (1 : Int32)), .val (.int fr), .val (.int to_), .val (.ref m1), .val (.int (fm1 (fr).toNatClampNeg))] [(.ref m1), (.ref p1)])) _
    refine XS.iloadN X677.here hx rfl (hb hby d20_36) rfl ?_
    show Steps p.tables e below (T677.setTop (mkF m 37 #[.val (.ref d), .val (.int (1 : Int32)), .val (.int fr), .val (.int to_), .val (.ref m1), .val (.int (fm1 (fr).toNatClampNeg))] [(.int fr), (.ref m1), (.ref p1)])) _
    exact kq)
  obtain ⟨cl684, Ar684, q684, S684, M684, H684⟩ := id V673
  have hi685 : ¬ (fr < 0 ∨ cl684.slots.size ≤ (fr).toNatClampNeg) := (inb_of S684 hfr)
  have G686 : Go p e below A0 (T677.setTop (mkF m 39 #[.val (.ref d), .val (.int (1 : Int32)), .val (.int fr), .val (.int to_), .val (.ref m1), .val (.int (fm1 (fr).toNatClampNeg))] [(.int fr), (.int ((own_up (own_up fm1 (fr).toNatClampNeg (fm1 (to_).toNatClampNeg)) (to_).toNatClampNeg (fm1 (fr).toNatClampNeg)) (fr).toNatClampNeg)), (.ref p1)])) := fun tq kq => G683 tq (by
    refine X677.iaload hx (j := fr) (v := (.int ((own_up (own_up fm1 (fr).toNatClampNeg (fm1 (to_).toNatClampNeg)) (to_).toNatClampNeg (fm1 (fr).toNatClampNeg)) (fr).toNatClampNeg))) (by rw [e677]; exact Ar684.1) (State.isArrayOf_alike hZ.alike Ar684.2.1) Ar684.2.2 hi685 ((H684 _ (S684 ▸ Nat.lt_of_not_le fun y => hi685 (Or.inr y))).trans (congrArg some rfl)) (g := (mkF m 37 #[.val (.ref d), .val (.int (1 : Int32)), .val (.int fr), .val (.int to_), .val (.ref m1), .val (.int (fm1 (fr).toNatClampNeg))] [(.int fr), (.ref m1), (.ref p1)])) rfl rfl (hb hby d20_37) _ ?_
    show Steps p.tables e below (T677.setTop (mkF m 38 #[.val (.ref d), .val (.int (1 : Int32)), .val (.int fr), .val (.int to_), .val (.ref m1), .val (.int (fm1 (fr).toNatClampNeg))] [(.int ((own_up (own_up fm1 (fr).toNatClampNeg (fm1 (to_).toNatClampNeg)) (to_).toNatClampNeg (fm1 (fr).toNatClampNeg)) (fr).toNatClampNeg)), (.ref p1)])) _
    refine XS.iloadN X677.here hx rfl (hb hby d20_38) rfl ?_
    show Steps p.tables e below (T677.setTop (mkF m 39 #[.val (.ref d), .val (.int (1 : Int32)), .val (.int fr), .val (.int to_), .val (.ref m1), .val (.int (fm1 (fr).toNatClampNeg))] [(.int fr), (.int ((own_up (own_up fm1 (fr).toNatClampNeg (fm1 (to_).toNatClampNeg)) (to_).toNatClampNeg (fm1 (fr).toNatClampNeg)) (fr).toNatClampNeg)), (.ref p1)])) _
    exact kq)
  have f687 := ((Ap1.other W668 (Ne.symm (show @Ne Nat m1 p1 by omega))).other W673 (Ne.symm (show @Ne Nat m1 p1 by omega)))
  obtain ⟨cl688, Ar688, q688, S688, M688, H688⟩ := id f687
  have hi689 : ¬ (((own_up (own_up fm1 (fr).toNatClampNeg (fm1 (to_).toNatClampNeg)) (to_).toNatClampNeg (fm1 (fr).toNatClampNeg)) (fr).toNatClampNeg) < 0 ∨ cl688.slots.size ≤ (((own_up (own_up fm1 (fr).toNatClampNeg (fm1 (to_).toNatClampNeg)) (to_).toNatClampNeg (fm1 (fr).toNatClampNeg)) (fr).toNatClampNeg)).toNatClampNeg) := (inb_of S688 hx1)
  obtain ⟨T690, h690, X690, e690, W690, st690⟩ := stI X677 hx hZ e677 Ar688 (j := ((own_up (own_up fm1 (fr).toNatClampNeg (fm1 (to_).toNatClampNeg)) (to_).toNatClampNeg (fm1 (fr).toNatClampNeg)) (fr).toNatClampNeg)) hi689 (g := (mkF m 39 #[.val (.ref d), .val (.int (1 : Int32)), .val (.int fr), .val (.int to_), .val (.ref m1), .val (.int (fm1 (fr).toNatClampNeg))] [(.int fr), (.int ((own_up (own_up fm1 (fr).toNatClampNeg (fm1 (to_).toNatClampNeg)) (to_).toNatClampNeg (fm1 (fr).toNatClampNeg)) (fr).toNatClampNeg)), (.ref p1)])) rfl rfl (hb hby d20_39)
  have N690 := Fr.snoc X690 N673 (show @LE.le Nat _ n0 p1 by omega)
  have V690 : Af Z h690 p1 cp1 .int (2 : Int32) (fun i => .int ((own_up fp1 (((own_up (own_up fm1 (fr).toNatClampNeg (fm1 (to_).toNatClampNeg)) (to_).toNatClampNeg (fm1 (fr).toNatClampNeg)) (fr).toNatClampNeg)).toNatClampNeg fr) i)) := (Af.set Ar688 q688 S688 M688 H688 W690 hi689).fn (fun j _ => own_upf _ _ _ _ rfl j)
  have G691 : Go p e below A0 (T690.setTop (mkF m 40 #[.val (.ref d), .val (.int (1 : Int32)), .val (.int fr), .val (.int to_), .val (.ref m1), .val (.int (fm1 (fr).toNatClampNeg))] [])) := fun tq kq => G686 tq (st690 _ kq)
  have G692 : Go p e below A0 (T690.setTop (mkF m 41 #[.val (.ref d), .val (.int (1 : Int32)), .val (.int fr), .val (.int to_), .val (.ref m1), .val (.int (fm1 (fr).toNatClampNeg))] [(.ref d)])) := fun tq kq => G691 tq (by
    refine XS.aloadN X690.here hx rfl (hb hby d20_40) rfl rfl ?_
    show Steps p.tables e below (T690.setTop (mkF m 41 #[.val (.ref d), .val (.int (1 : Int32)), .val (.int fr), .val (.int to_), .val (.ref m1), .val (.int (fm1 (fr).toNatClampNeg))] [(.ref d)])) _
    exact kq)
  have f693 := (f676.other W690 (Or.inl (show @Ne Nat d p1 by omega)))
  obtain ⟨T694, X694, e694, st694⟩ := getF X690 hx hZ hown (host := "") (Or.inl (hw _ (List.mem_of_getElem? (i := 106) rfl))) Via.refl e690 f693 (g := (mkF m 41 #[.val (.ref d), .val (.int (1 : Int32)), .val (.int fr), .val (.int to_), .val (.ref m1), .val (.int (fm1 (fr).toNatClampNeg))] [(.ref d)])) rfl rfl (hb hby d20_41)
  have G695 : Go p e below A0 (T694.setTop (mkF m 44 #[.val (.ref d), .val (.int (1 : Int32)), .val (.int fr), .val (.int to_), .val (.ref m1), .val (.int (fm1 (fr).toNatClampNeg))] [(.ref pos)])) := fun tq kq => G692 tq (st694 _ kq)
  have G696 : Go p e below A0 (T694.setTop (mkF m 45 #[.val (.ref d), .val (.int (1 : Int32)), .val (.int fr), .val (.int to_), .val (.ref m1), .val (.int (fm1 (fr).toNatClampNeg))] [(.int (1 : Int32)), (.ref pos)])) := fun tq kq => G695 tq (by
    refine XS.iloadN X694.here hx rfl (hb hby d20_44) rfl ?_
    show Steps p.tables e below (T694.setTop (mkF m 45 #[.val (.ref d), .val (.int (1 : Int32)), .val (.int fr), .val (.int to_), .val (.ref m1), .val (.int (fm1 (fr).toNatClampNeg))] [(.int (1 : Int32)), (.ref pos)])) _
    exact kq)
  have f697 := (f680.other W690 (show @Ne Nat pos p1 by omega))
  obtain ⟨cl698, Ar698, q698, S698, M698, H698, Gf698⟩ := id f697
  have hi699 : ¬ ((1 : Int32) < 0 ∨ cl698.slots.size ≤ ((1 : Int32)).toNatClampNeg) := (inb_of S698 ⟨by decide, by decide⟩)
  have G700 : Go p e below A0 (T694.setTop (mkF m 49 #[.val (.ref d), .val (.int (1 : Int32)), .val (.int fr), .val (.int to_), .val (.ref m1), .val (.int (fm1 (fr).toNatClampNeg))] [(.int to_), (.int (fm1 (fr).toNatClampNeg)), (.ref p1)])) := fun tq kq => G696 tq (by
    refine X694.aaload hx (j := (1 : Int32)) (v := (.ref p1)) (by rw [e694]; exact Ar698.1) (State.isArrayOf_alike hZ.alike Ar698.2.1) rfl Ar698.2.2 hi699 (H698.at hi699 rfl) (g := (mkF m 45 #[.val (.ref d), .val (.int (1 : Int32)), .val (.int fr), .val (.int to_), .val (.ref m1), .val (.int (fm1 (fr).toNatClampNeg))] [(.int (1 : Int32)), (.ref pos)])) rfl rfl (hb hby d20_45) _ ?_
    show Steps p.tables e below (T694.setTop (mkF m 46 #[.val (.ref d), .val (.int (1 : Int32)), .val (.int fr), .val (.int to_), .val (.ref m1), .val (.int (fm1 (fr).toNatClampNeg))] [(.ref p1)])) _
    refine XS.iload X694.here hx rfl (hb hby d20_46) rfl ?_
    show Steps p.tables e below (T694.setTop (mkF m 48 #[.val (.ref d), .val (.int (1 : Int32)), .val (.int fr), .val (.int to_), .val (.ref m1), .val (.int (fm1 (fr).toNatClampNeg))] [(.int (fm1 (fr).toNatClampNeg)), (.ref p1)])) _
    refine XS.iloadN X694.here hx rfl (hb hby d20_48) rfl ?_
    show Steps p.tables e below (T694.setTop (mkF m 49 #[.val (.ref d), .val (.int (1 : Int32)), .val (.int fr), .val (.int to_), .val (.ref m1), .val (.int (fm1 (fr).toNatClampNeg))] [(.int to_), (.int (fm1 (fr).toNatClampNeg)), (.ref p1)])) _
    exact kq)
  obtain ⟨cl701, Ar701, q701, S701, M701, H701⟩ := id V690
  have hi702 : ¬ ((fm1 (fr).toNatClampNeg) < 0 ∨ cl701.slots.size ≤ ((fm1 (fr).toNatClampNeg)).toNatClampNeg) := (inb_of S701 hx0)
  obtain ⟨T703, h703, X703, e703, W703, st703⟩ := stI X694 hx hZ e694 Ar701 (j := (fm1 (fr).toNatClampNeg)) hi702 (g := (mkF m 49 #[.val (.ref d), .val (.int (1 : Int32)), .val (.int fr), .val (.int to_), .val (.ref m1), .val (.int (fm1 (fr).toNatClampNeg))] [(.int to_), (.int (fm1 (fr).toNatClampNeg)), (.ref p1)])) rfl rfl (hb hby d20_49)
  have N703 := Fr.snoc X703 N690 (show @LE.le Nat _ n0 p1 by omega)
  have V703 : Af Z h703 p1 cp1 .int (2 : Int32) (fun i => .int ((own_up (own_up fp1 (((own_up (own_up fm1 (fr).toNatClampNeg (fm1 (to_).toNatClampNeg)) (to_).toNatClampNeg (fm1 (fr).toNatClampNeg)) (fr).toNatClampNeg)).toNatClampNeg fr) ((fm1 (fr).toNatClampNeg)).toNatClampNeg to_) i)) := (Af.set Ar701 q701 S701 M701 H701 W703 hi702).fn (fun j _ => own_upf _ _ _ _ rfl j)
  have G704 : Go p e below A0 (T703.setTop (mkF m 50 #[.val (.ref d), .val (.int (1 : Int32)), .val (.int fr), .val (.int to_), .val (.ref m1), .val (.int (fm1 (fr).toNatClampNeg))] [])) := fun tq kq => G700 tq (st703 _ kq)
  have f705 := ((((D0_.other W668 (Or.inl (show @Ne Nat d m1 by omega))).other W673 (Or.inl (show @Ne Nat d m1 by omega))).other W690 (Or.inl (show @Ne Nat d p1 by omega))).other W703 (Or.inl (show @Ne Nat d p1 by omega)))
  have f706 := ((((D1_.other W668 (Or.inl (show @Ne Nat d m1 by omega))).other W673 (Or.inl (show @Ne Nat d m1 by omega))).other W690 (Or.inl (show @Ne Nat d p1 by omega))).other W703 (Or.inl (show @Ne Nat d p1 by omega)))
  have f707 := (f693.other W703 (Or.inl (show @Ne Nat d p1 by omega)))
  have f708 := ((((D3_.other W668 (Or.inl (show @Ne Nat d m1 by omega))).other W673 (Or.inl (show @Ne Nat d m1 by omega))).other W690 (Or.inl (show @Ne Nat d p1 by omega))).other W703 (Or.inl (show @Ne Nat d p1 by omega)))
  have f709 := ((((D4_.other W668 (Or.inl (show @Ne Nat d m1 by omega))).other W673 (Or.inl (show @Ne Nat d m1 by omega))).other W690 (Or.inl (show @Ne Nat d p1 by omega))).other W703 (Or.inl (show @Ne Nat d p1 by omega)))
  have f710 := ((((Ed.wr W668).wr W673).wr W690).wr W703)
  have f711 := ((((Amem.other W668 (show @Ne Nat mem m1 by omega)).other W673 (show @Ne Nat mem m1 by omega)).other W690 (show @Ne Nat mem p1 by omega)).other W703 (show @Ne Nat mem p1 by omega))
  have f712 := (f697.other W703 (show @Ne Nat pos p1 by omega))
  have f713 := ((((Asiz.other W668 (show @Ne Nat siz m1 by omega)).other W673 (show @Ne Nat siz m1 by omega)).other W690 (show @Ne Nat siz p1 by omega)).other W703 (show @Ne Nat siz p1 by omega))
  have f714 := ((((Amrk.other W668 (show @Ne Nat mrk m1 by omega)).other W673 (show @Ne Nat mrk m1 by omega)).other W690 (show @Ne Nat mrk p1 by omega)).other W703 (show @Ne Nat mrk p1 by omega))
  have f715 := ((((Am0.other W668 (show @Ne Nat m0 m1 by omega)).other W673 (show @Ne Nat m0 m1 by omega)).other W690 (show @Ne Nat m0 p1 by omega)).other W703 (show @Ne Nat m0 p1 by omega))
  have f716 := ((((Ap0.other W668 (show @Ne Nat p0 m1 by omega)).other W673 (show @Ne Nat p0 m1 by omega)).other W690 (show @Ne Nat p0 p1 by omega)).other W703 (show @Ne Nat p0 p1 by omega))
  have f717 := ((((Ak0.other W668 (show @Ne Nat k0 m1 by omega)).other W673 (show @Ne Nat k0 m1 by omega)).other W690 (show @Ne Nat k0 p1 by omega)).other W703 (show @Ne Nat k0 p1 by omega))
  have f718 := ((V673.other W690 (show @Ne Nat m1 p1 by omega)).other W703 (show @Ne Nat m1 p1 by omega))
  have f719 := ((((Ak1.other W668 (Ne.symm (show @Ne Nat m1 k1 by omega))).other W673 (Ne.symm (show @Ne Nat m1 k1 by omega))).other W690 (Ne.symm (show @Ne Nat p1 k1 by omega))).other W703 (Ne.symm (show @Ne Nat p1 k1 by omega)))
  obtain ⟨fs, hr, hrun, hended, hW, hsame⟩ := X703.leave (v := none) (fun _ => rfl)
  refine ⟨_, _, (by rw [← hA0]; exact G704 _ (X703.returnOut hx Bd.returns (hb hby d20_50) hr)), hrun, hended, _, _, rfl, ?_, ⟨_, rfl⟩, hW, hsame.mono (by decide) (by decide)⟩
  show Qs1 Z d mem pos siz mrk m0 p0 k0 m1 p1 k1 rd fsz fm0 fp0 fk0 fm1 fp1 fk1 fr to_ h0 n0 _ T703.heap _
  rw [e703]
  exact ⟨rfl, N703, (((((Keep.refl h0 [m1, p1]).wr W668 (Or.inl (List.mem_of_getElem? (i := 0) rfl))).wr W673 (Or.inl (List.mem_of_getElem? (i := 0) rfl))).wr W690 (Or.inl (List.mem_of_getElem? (i := 1) rfl))).wr W703 (Or.inl (List.mem_of_getElem? (i := 1) rfl))), ⟨f710, f705, f706, f707, f708, f709, ⟨_, f711⟩, ⟨_, f712⟩, ⟨_, f714⟩, ⟨_, f713⟩, ⟨_, f715⟩, ⟨_, f716⟩, ⟨_, f717⟩, ⟨_, f718⟩, ⟨_, V703⟩, ⟨_, f719⟩⟩⟩
def QR0 (Z : State) (d mem pos siz mrk m0 p0 k0 m1 p1 k1 : Addr) (rd : Int32) (fsz fm0 fp0 fk0 fm1 fp1 fk1 : Nat → Int32) (val : Int32) (h0 : Heap) (n0 : Nat) (v : Option Value) (h : Heap) (L : List Loc) : Prop := v = none ∧ Fr n0 L ∧ Keep h0 h [m0, p0, siz] ∧ Dom Z h d mem pos siz mrk m0 p0 k0 m1 p1 k1 rd (own_up fsz 0 ((fsz 0) - (1 : Int32))) (own_sm fm0 (fp0 val.toNatClampNeg) ((fsz 0) - (1 : Int32))) (own_sp fm0 fp0 (fp0 val.toNatClampNeg) ((fsz 0) - (1 : Int32))) (fk0) (fm1) (fp1) (fk1)
set_option maxRecDepth 65536 in
set_option maxHeartbeats 40000000 in
theorem rmR0 (l : Launch) (Z : State) (a0 : Array Value) (hw : ∀ d ∈ tables_1, d.before a0 Z = true) (ws : List Jvm.Cond) (d mem pos siz mrk m0 p0 k0 m1 p1 k1 : Addr) (rd : Int32) (fsz fm0 fp0 fk0 fm1 fp1 fk1 : Nat → Int32) (val : Int32) (h0 : Heap) (n0 : Nat) (Z0 : n0 ≤ h0.size) (hord : Ord n0 d mem pos siz mrk m0 p0 k0 m1 p1 k1) (hdom : Dom Z h0 d mem pos siz mrk m0 p0 k0 m1 p1 k1 rd (fsz) (fm0) (fp0) (fk0) (fm1) (fp1) (fk1)) (hval : ¬ val < 0 ∧ val < (4 : Int32)) (hfr : ¬ (fp0 val.toNatClampNeg) < 0 ∧ (fp0 val.toNatClampNeg) < (4 : Int32)) (hto : ¬ ((fsz 0) - (1 : Int32)) < 0 ∧ ((fsz 0) - (1 : Int32)) < (4 : Int32)) (hx0 : ¬ (fm0 (fp0 val.toNatClampNeg).toNatClampNeg) < 0 ∧ (fm0 (fp0 val.toNatClampNeg).toNatClampNeg) < (4 : Int32)) (hx1 : ¬ (own_sm fm0 (fp0 val.toNatClampNeg) ((fsz 0) - (1 : Int32)) (fp0 val.toNatClampNeg).toNatClampNeg) < 0 ∧ (own_sm fm0 (fp0 val.toNatClampNeg) ((fsz 0) - (1 : Int32)) (fp0 val.toNatClampNeg).toNatClampNeg) < (4 : Int32)) :
    MetFree l (⟨"com/example/ludarc/ludarc/engine/Domains", "remove", "(II)V"⟩ : MethodName) (head1 (Jvm.Cond.code (⟨"com/example/ludarc/ludarc/engine/Domains", "remove", "(II)V"⟩ : MethodName) prog_5_method_7_code 4 none :: ws) ({ frames := 1, cells := 0, slots := 0, locals := 17 } : Room)) (fun aa UU => aa = #[(.ref d), (.int (0 : Int32)), (.int val)] ∧ Z.Warmed39 UU.vm ∧ UU.heap = h0) (fun _ _ _ _ _ => True) (fun _ UU oo U' => ∃ v L, oo = .returned v ∧ QR0 Z d mem pos siz mrk m0 p0 k0 m1 p1 k1 rd fsz fm0 fp0 fk0 fm1 fp1 fk1 val h0 n0 v U'.heap L ∧ FrameEnd UU oo U' L ({ frames := 1, cells := 0, slots := 0, locals := 17 } : Room).cells ({ frames := 1, cells := 0, slots := 0, locals := 17 } : Room).slots) := by
  refine MetFree.of_bodySF (plainFor_of_name pn_6) hisR ?_
  intro p e s m args below meth c s₁ Bd hml0 hP hK
  obtain ⟨rfl, hZ, hh⟩ := hP
  have hx := Bd.exec
  have hby := Bd.bytes
  have hml : c.maxLocals = 4 := hml0
  have hown : s.vm.findClass "com/example/ludarc/ludarc/engine/Domains" = some m.cls := findClass_of_methodNamed Bd.named
  have hnm := (name_of_methodNamed Bd.named Bd.method).1
  have X0 : Stand p l e ({ frames := 1, cells := 0, slots := 0, locals := 17 } : Room) s m #[(.ref d), (.int (0 : Int32)), (.int val)] below meth c s₁ [] 0 0 := Stand.of_body Bd
  have e0 : s₁.heap = h0 := by rw [← hh, Bd.state]; rfl
  have N0 := Fr.nil n0
  obtain ⟨A0, hA0⟩ : ∃ A, A = s₁.setTop (entryFrame m #[(.ref d), (.int (0 : Int32)), (.int val)] 4) := ⟨_, rfl⟩
  have G0 : Go p e below A0 (s₁.setTop (mkF m 0 #[.val (.ref d), .val (.int (0 : Int32)), .val (.int val), .unset] [])) := fun tq kq => by rw [hA0]; exact castTop (ef_rmR0 m d (0 : Int32) val) kq
  have hord0 := hord
  obtain ⟨o0, o1, o2, o3, o4, o5, o6, o7, o8, o9, o10⟩ := hord
  obtain ⟨Ed, D0_, D1_, D2_, D3_, D4_, ⟨cmem, Amem⟩, ⟨cpos, Apos⟩, ⟨cmrk, Amrk⟩, ⟨csiz, Asiz⟩, ⟨cm0, Am0⟩, ⟨cp0, Ap0⟩, ⟨ck0, Ak0⟩, ⟨cm1, Am1⟩, ⟨cp1, Ap1⟩, ⟨ck1, Ak1⟩⟩ := hdom
  have G720 : Go p e below A0 (s₁.setTop (mkF m 1 #[.val (.ref d), .val (.int (0 : Int32)), .val (.int val), .unset] [(.ref d)])) := fun tq kq => G0 tq (by
    refine XS.aloadN X0.here hx rfl (hb hby d19_0) rfl rfl ?_
    show Steps p.tables e below (s₁.setTop (mkF m 1 #[.val (.ref d), .val (.int (0 : Int32)), .val (.int val), .unset] [(.ref d)])) _
    exact kq)
  obtain ⟨T721, X721, e721, st721⟩ := getF X0 hx hZ hown (host := "") (Or.inl (hw _ (List.mem_of_getElem? (i := 108) rfl))) Via.refl e0 D3_ (g := (mkF m 1 #[.val (.ref d), .val (.int (0 : Int32)), .val (.int val), .unset] [(.ref d)])) rfl rfl (hb hby d19_1)
  have G722 : Go p e below A0 (T721.setTop (mkF m 4 #[.val (.ref d), .val (.int (0 : Int32)), .val (.int val), .unset] [(.ref siz)])) := fun tq kq => G720 tq (st721 _ kq)
  have G723 : Go p e below A0 (T721.setTop (mkF m 5 #[.val (.ref d), .val (.int (0 : Int32)), .val (.int val), .unset] [(.int (0 : Int32)), (.ref siz)])) := fun tq kq => G722 tq (by
    refine XS.iloadN X721.here hx rfl (hb hby d19_4) rfl ?_
    show Steps p.tables e below (T721.setTop (mkF m 5 #[.val (.ref d), .val (.int (0 : Int32)), .val (.int val), .unset] [(.int (0 : Int32)), (.ref siz)])) _
    exact kq)
  obtain ⟨cl724, Ar724, q724, S724, M724, H724⟩ := id Asiz
  have hi725 : ¬ ((0 : Int32) < 0 ∨ cl724.slots.size ≤ ((0 : Int32)).toNatClampNeg) := (inb_of S724 ⟨by decide, by decide⟩)
  have G726 : Go p e below A0 (T721.setTop (mkF m 12 #[.val (.ref d), .val (.int (0 : Int32)), .val (.int val), .val (.int ((fsz 0) - (1 : Int32)))] [(.ref d), (.int (0 : Int32)), (.ref d)])) := fun tq kq => G723 tq (by
    refine X721.iaload hx (j := (0 : Int32)) (v := (.int (fsz 0))) (by rw [e721]; exact Ar724.1) (State.isArrayOf_alike hZ.alike Ar724.2.1) Ar724.2.2 hi725 ((H724 _ (S724 ▸ Nat.lt_of_not_le fun y => hi725 (Or.inr y))).trans (congrArg some rfl)) (g := (mkF m 5 #[.val (.ref d), .val (.int (0 : Int32)), .val (.int val), .unset] [(.int (0 : Int32)), (.ref siz)])) rfl rfl (hb hby d19_5) _ ?_
    show Steps p.tables e below (T721.setTop (mkF m 6 #[.val (.ref d), .val (.int (0 : Int32)), .val (.int val), .unset] [(.int (fsz 0))])) _
    refine XS.iconst X721.here hx rfl (hb hby d19_6) ?_
    show Steps p.tables e below (T721.setTop (mkF m 7 #[.val (.ref d), .val (.int (0 : Int32)), .val (.int val), .unset] [(.int (1 : Int32)), (.int (fsz 0))])) _
    refine XS.isub X721.here hx rfl (hb hby d19_7) rfl ?_
    show Steps p.tables e below (T721.setTop (mkF m 8 #[.val (.ref d), .val (.int (0 : Int32)), .val (.int val), .unset] [(.int ((fsz 0) - (1 : Int32)))])) _
    refine XS.istoreN X721.here hx rfl (hb hby d19_8) rfl (l' := #[.val (.ref d), .val (.int (0 : Int32)), .val (.int val), .val (.int ((fsz 0) - (1 : Int32)))]) rfl ?_
    show Steps p.tables e below (T721.setTop (mkF m 9 #[.val (.ref d), .val (.int (0 : Int32)), .val (.int val), .val (.int ((fsz 0) - (1 : Int32)))] [])) _
    refine XS.aloadN X721.here hx rfl (hb hby d19_9) rfl rfl ?_
    show Steps p.tables e below (T721.setTop (mkF m 10 #[.val (.ref d), .val (.int (0 : Int32)), .val (.int val), .val (.int ((fsz 0) - (1 : Int32)))] [(.ref d)])) _
    refine XS.iloadN X721.here hx rfl (hb hby d19_10) rfl ?_
    show Steps p.tables e below (T721.setTop (mkF m 11 #[.val (.ref d), .val (.int (0 : Int32)), .val (.int val), .val (.int ((fsz 0) - (1 : Int32)))] [(.int (0 : Int32)), (.ref d)])) _
    refine XS.aloadN X721.here hx rfl (hb hby d19_11) rfl rfl ?_
    show Steps p.tables e below (T721.setTop (mkF m 12 #[.val (.ref d), .val (.int (0 : Int32)), .val (.int val), .val (.int ((fsz 0) - (1 : Int32)))] [(.ref d), (.int (0 : Int32)), (.ref d)])) _
    exact kq)
  obtain ⟨T727, X727, e727, st727⟩ := getF X721 hx hZ hown (host := "") (Or.inl (hw _ (List.mem_of_getElem? (i := 106) rfl))) Via.refl e721 D2_ (g := (mkF m 12 #[.val (.ref d), .val (.int (0 : Int32)), .val (.int val), .val (.int ((fsz 0) - (1 : Int32)))] [(.ref d), (.int (0 : Int32)), (.ref d)])) rfl rfl (hb hby d19_12)
  have G728 : Go p e below A0 (T727.setTop (mkF m 15 #[.val (.ref d), .val (.int (0 : Int32)), .val (.int val), .val (.int ((fsz 0) - (1 : Int32)))] [(.ref pos), (.int (0 : Int32)), (.ref d)])) := fun tq kq => G726 tq (st727 _ kq)
  have G729 : Go p e below A0 (T727.setTop (mkF m 16 #[.val (.ref d), .val (.int (0 : Int32)), .val (.int val), .val (.int ((fsz 0) - (1 : Int32)))] [(.int (0 : Int32)), (.ref pos), (.int (0 : Int32)), (.ref d)])) := fun tq kq => G728 tq (by
    refine XS.iloadN X727.here hx rfl (hb hby d19_15) rfl ?_
    show Steps p.tables e below (T727.setTop (mkF m 16 #[.val (.ref d), .val (.int (0 : Int32)), .val (.int val), .val (.int ((fsz 0) - (1 : Int32)))] [(.int (0 : Int32)), (.ref pos), (.int (0 : Int32)), (.ref d)])) _
    exact kq)
  obtain ⟨cl730, Ar730, q730, S730, M730, H730, Gf730⟩ := id Apos
  have hi731 : ¬ ((0 : Int32) < 0 ∨ cl730.slots.size ≤ ((0 : Int32)).toNatClampNeg) := (inb_of S730 ⟨by decide, by decide⟩)
  have G732 : Go p e below A0 (T727.setTop (mkF m 18 #[.val (.ref d), .val (.int (0 : Int32)), .val (.int val), .val (.int ((fsz 0) - (1 : Int32)))] [(.int val), (.ref p0), (.int (0 : Int32)), (.ref d)])) := fun tq kq => G729 tq (by
    refine X727.aaload hx (j := (0 : Int32)) (v := (.ref p0)) (by rw [e727]; exact Ar730.1) (State.isArrayOf_alike hZ.alike Ar730.2.1) rfl Ar730.2.2 hi731 (H730.at hi731 rfl) (g := (mkF m 16 #[.val (.ref d), .val (.int (0 : Int32)), .val (.int val), .val (.int ((fsz 0) - (1 : Int32)))] [(.int (0 : Int32)), (.ref pos), (.int (0 : Int32)), (.ref d)])) rfl rfl (hb hby d19_16) _ ?_
    show Steps p.tables e below (T727.setTop (mkF m 17 #[.val (.ref d), .val (.int (0 : Int32)), .val (.int val), .val (.int ((fsz 0) - (1 : Int32)))] [(.ref p0), (.int (0 : Int32)), (.ref d)])) _
    refine XS.iloadN X727.here hx rfl (hb hby d19_17) rfl ?_
    show Steps p.tables e below (T727.setTop (mkF m 18 #[.val (.ref d), .val (.int (0 : Int32)), .val (.int val), .val (.int ((fsz 0) - (1 : Int32)))] [(.int val), (.ref p0), (.int (0 : Int32)), (.ref d)])) _
    exact kq)
  obtain ⟨cl733, Ar733, q733, S733, M733, H733⟩ := id Ap0
  have hi734 : ¬ (val < 0 ∨ cl733.slots.size ≤ (val).toNatClampNeg) := (inb_of S733 hval)
  have G735 : Go p e below A0 (T727.setTop (mkF m 20 #[.val (.ref d), .val (.int (0 : Int32)), .val (.int val), .val (.int ((fsz 0) - (1 : Int32)))] [(.int ((fsz 0) - (1 : Int32))), (.int (fp0 (val).toNatClampNeg)), (.int (0 : Int32)), (.ref d)])) := fun tq kq => G732 tq (by
    refine X727.iaload hx (j := val) (v := (.int (fp0 (val).toNatClampNeg))) (by rw [e727]; exact Ar733.1) (State.isArrayOf_alike hZ.alike Ar733.2.1) Ar733.2.2 hi734 ((H733 _ (S733 ▸ Nat.lt_of_not_le fun y => hi734 (Or.inr y))).trans (congrArg some rfl)) (g := (mkF m 18 #[.val (.ref d), .val (.int (0 : Int32)), .val (.int val), .val (.int ((fsz 0) - (1 : Int32)))] [(.int val), (.ref p0), (.int (0 : Int32)), (.ref d)])) rfl rfl (hb hby d19_18) _ ?_
    show Steps p.tables e below (T727.setTop (mkF m 19 #[.val (.ref d), .val (.int (0 : Int32)), .val (.int val), .val (.int ((fsz 0) - (1 : Int32)))] [(.int (fp0 (val).toNatClampNeg)), (.int (0 : Int32)), (.ref d)])) _
    refine XS.iloadN X727.here hx rfl (hb hby d19_19) rfl ?_
    show Steps p.tables e below (T727.setTop (mkF m 20 #[.val (.ref d), .val (.int (0 : Int32)), .val (.int val), .val (.int ((fsz 0) - (1 : Int32)))] [(.int ((fsz 0) - (1 : Int32))), (.int (fp0 (val).toNatClampNeg)), (.int (0 : Int32)), (.ref d)])) _
    exact kq)
  obtain ⟨cq736, q736, q736'⟩ := Ed.cell
  obtain ⟨_, _, ⟨T736, L736, k736, n736⟩, -, X736, ⟨Lc736, hQ736, l736, y736, z736⟩, st736⟩ := X727.privateBack hx (y := (⟨"com/example/ludarc/ludarc/engine/Domains", "swap", "(III)V"⟩ : MethodName)) hown (mvT hZ (hw _ (List.mem_of_getElem? (i := 151) rfl))) (mvT hZ (hw _ (List.mem_of_getElem? (i := 152) rfl))) (own_sel (mvT hZ (hw _ (List.mem_of_getElem? (i := 85) rfl))) (mvP hZ (hw _ (List.mem_of_getElem? (i := 153) rfl))) (mvT hZ (hw _ (List.mem_of_getElem? (i := 152) rfl))) (by decide)) (Cond.privateMethod_at (mvP hZ (hw _ (List.mem_of_getElem? (i := 153) rfl)) (args := #[]))) (mvT hZ (hw _ (List.mem_of_getElem? (i := 154) rfl))) (by decide) (backOf (W := 0) (rmS0 l Z a0 hw [] d mem pos siz mrk m0 p0 k0 m1 p1 k1 rd fsz fm0 fp0 fk0 fm1 fp1 fk1 (fp0 (val).toNatClampNeg) ((fsz 0) - (1 : Int32)) h0 n0 Z0 hord0 ⟨Ed, D0_, D1_, D2_, D3_, D4_, ⟨_, Amem⟩, ⟨_, Apos⟩, ⟨_, Amrk⟩, ⟨_, Asiz⟩, ⟨_, Am0⟩, ⟨_, Ap0⟩, ⟨_, Ak0⟩, ⟨_, Am1⟩, ⟨_, Ap1⟩, ⟨_, Ak1⟩⟩ hfr hto hx0 hx1) hZ (hw _ (List.mem_of_getElem? (i := 154) rfl)) (hw _ (List.mem_of_getElem? (i := 86) rfl)) (by decide) (by decide)) (g := (mkF m 20 #[.val (.ref d), .val (.int (0 : Int32)), .val (.int val), .val (.int ((fsz 0) - (1 : Int32)))] [(.int ((fsz 0) - (1 : Int32))), (.int (fp0 (val).toNatClampNeg)), (.int (0 : Int32)), (.ref d)])) rfl (by rw [hml]; rfl) (Steps.refl _) (a := d) (by rw [e727]; exact q736) q736' (argsL := [(.int (0 : Int32)), (.int (fp0 (val).toNatClampNeg)), (.int ((fsz 0) - (1 : Int32)))]) (rest := []) (lenOf pd_8 rfl) rfl (by show 2 * 0 + _ ≤ _; exact Nat.le_of_eq rfl) (hb hby d19_20) (fun _ _ => ⟨rfl, e727, (by decide : 0 + 0 ≤ _), (by decide : 0 + 0 ≤ _)⟩)
  dsimp only [Pt.U, Pt.locs, Pt.cells, Pt.slots] at X736 l736 y736 z736 st736 hQ736
  obtain rfl : k736 = 0 := y736
  obtain rfl : n736 = 0 := z736
  obtain ⟨rfl, N736q, K736, dom736⟩ := hQ736
  have N736 : Fr n0 L736 := by rw [l736]; exact Fr.app N0 N736q
  obtain ⟨Ed736, D0_736, D1_736, D2_736, D3_736, D4_736, ⟨cmem736, Amem736⟩, ⟨cpos736, Apos736⟩, ⟨cmrk736, Amrk736⟩, ⟨csiz736, Asiz736⟩, ⟨cm0736, Am0736⟩, ⟨cp0736, Ap0736⟩, ⟨ck0736, Ak0736⟩, ⟨cm1736, Am1736⟩, ⟨cp1736, Ap1736⟩, ⟨ck1736, Ak1736⟩⟩ := dom736
  have G737 : Go p e below A0 (T736.setTop (mkF m 23 #[.val (.ref d), .val (.int (0 : Int32)), .val (.int val), .val (.int ((fsz 0) - (1 : Int32)))] [])) := fun tq kq => G735 tq (st736.trans kq)
  have G738 : Go p e below A0 (T736.setTop (mkF m 24 #[.val (.ref d), .val (.int (0 : Int32)), .val (.int val), .val (.int ((fsz 0) - (1 : Int32)))] [(.ref d)])) := fun tq kq => G737 tq (by
    refine XS.aloadN X736.here hx rfl (hb hby d19_23) rfl rfl ?_
    show Steps p.tables e below (T736.setTop (mkF m 24 #[.val (.ref d), .val (.int (0 : Int32)), .val (.int val), .val (.int ((fsz 0) - (1 : Int32)))] [(.ref d)])) _
    exact kq)
  obtain ⟨T739, X739, e739, st739⟩ := getF X736 hx hZ hown (host := "") (Or.inl (hw _ (List.mem_of_getElem? (i := 108) rfl))) Via.refl rfl D3_736 (g := (mkF m 24 #[.val (.ref d), .val (.int (0 : Int32)), .val (.int val), .val (.int ((fsz 0) - (1 : Int32)))] [(.ref d)])) rfl rfl (hb hby d19_24)
  have G740 : Go p e below A0 (T739.setTop (mkF m 27 #[.val (.ref d), .val (.int (0 : Int32)), .val (.int val), .val (.int ((fsz 0) - (1 : Int32)))] [(.ref siz)])) := fun tq kq => G738 tq (st739 _ kq)
  have G741 : Go p e below A0 (T739.setTop (mkF m 29 #[.val (.ref d), .val (.int (0 : Int32)), .val (.int val), .val (.int ((fsz 0) - (1 : Int32)))] [(.int ((fsz 0) - (1 : Int32))), (.int (0 : Int32)), (.ref siz)])) := fun tq kq => G740 tq (by
    refine XS.iloadN X739.here hx rfl (hb hby d19_27) rfl ?_
    show Steps p.tables e below (T739.setTop (mkF m 28 #[.val (.ref d), .val (.int (0 : Int32)), .val (.int val), .val (.int ((fsz 0) - (1 : Int32)))] [(.int (0 : Int32)), (.ref siz)])) _
    refine XS.iloadN X739.here hx rfl (hb hby d19_28) rfl ?_
    show Steps p.tables e below (T739.setTop (mkF m 29 #[.val (.ref d), .val (.int (0 : Int32)), .val (.int val), .val (.int ((fsz 0) - (1 : Int32)))] [(.int ((fsz 0) - (1 : Int32))), (.int (0 : Int32)), (.ref siz)])) _
    exact kq)
  obtain ⟨cl742, Ar742, q742, S742, M742, H742⟩ := id Asiz736
  have hi743 : ¬ ((0 : Int32) < 0 ∨ cl742.slots.size ≤ ((0 : Int32)).toNatClampNeg) := (inb_of S742 ⟨by decide, by decide⟩)
  obtain ⟨T744, h744, X744, e744, W744, st744⟩ := stI X739 hx hZ e739 Ar742 (j := (0 : Int32)) hi743 (g := (mkF m 29 #[.val (.ref d), .val (.int (0 : Int32)), .val (.int val), .val (.int ((fsz 0) - (1 : Int32)))] [(.int ((fsz 0) - (1 : Int32))), (.int (0 : Int32)), (.ref siz)])) rfl rfl (hb hby d19_29)
  have N744 := Fr.snoc X744 N736 (show @LE.le Nat _ n0 siz by omega)
  have V744 : Af Z h744 siz csiz736 .int (2 : Int32) (fun i => .int ((own_up fsz 0 ((fsz 0) - (1 : Int32))) i)) := (Af.set Ar742 q742 S742 M742 H742 W744 hi743).fn (fun j _ => own_upf _ _ _ _ rfl j)
  have G745 : Go p e below A0 (T744.setTop (mkF m 30 #[.val (.ref d), .val (.int (0 : Int32)), .val (.int val), .val (.int ((fsz 0) - (1 : Int32)))] [])) := fun tq kq => G741 tq (st744 _ kq)
  have f746 := (D0_736.other W744 (Or.inl (show @Ne Nat d siz by omega)))
  have f747 := (D1_736.other W744 (Or.inl (show @Ne Nat d siz by omega)))
  have f748 := (D2_736.other W744 (Or.inl (show @Ne Nat d siz by omega)))
  have f749 := (D3_736.other W744 (Or.inl (show @Ne Nat d siz by omega)))
  have f750 := (D4_736.other W744 (Or.inl (show @Ne Nat d siz by omega)))
  have f751 := (Ed736.wr W744)
  have f752 := (Amem736.other W744 (show @Ne Nat mem siz by omega))
  have f753 := (Apos736.other W744 (show @Ne Nat pos siz by omega))
  have f754 := (Amrk736.other W744 (Ne.symm (show @Ne Nat siz mrk by omega)))
  have f755 := (Am0736.other W744 (Ne.symm (show @Ne Nat siz m0 by omega)))
  have f756 := (Ap0736.other W744 (Ne.symm (show @Ne Nat siz p0 by omega)))
  have f757 := (Ak0736.other W744 (Ne.symm (show @Ne Nat siz k0 by omega)))
  have f758 := (Am1736.other W744 (Ne.symm (show @Ne Nat siz m1 by omega)))
  have f759 := (Ap1736.other W744 (Ne.symm (show @Ne Nat siz p1 by omega)))
  have f760 := (Ak1736.other W744 (Ne.symm (show @Ne Nat siz k1 by omega)))
  obtain ⟨fs, hr, hrun, hended, hW, hsame⟩ := X744.leave (v := none) (fun _ => rfl)
  refine ⟨_, _, (by rw [← hA0]; exact G745 _ (X744.returnOut hx Bd.returns (hb hby d19_30) hr)), hrun, hended, _, _, rfl, ?_, ⟨_, rfl⟩, hW, hsame.mono (by decide) (by decide)⟩
  show QR0 Z d mem pos siz mrk m0 p0 k0 m1 p1 k1 rd fsz fm0 fp0 fk0 fm1 fp1 fk1 val h0 n0 _ T744.heap _
  rw [e744]
  exact ⟨rfl, N744, (((Keep.refl h0 [m0, p0, siz]).trans K736 (allS (P := fun x => x ∈ [m0, p0, siz] ∨ h0.size ≤ x) (Or.inl (List.mem_of_getElem? (i := 0) rfl)) (allS (P := fun x => x ∈ [m0, p0, siz] ∨ h0.size ≤ x) (Or.inl (List.mem_of_getElem? (i := 1) rfl)) all0))).wr W744 (Or.inl (List.mem_of_getElem? (i := 2) rfl))), ⟨f751, f746, f747, f748, f749, f750, ⟨_, f752⟩, ⟨_, f753⟩, ⟨_, f754⟩, ⟨_, V744⟩, ⟨_, f755⟩, ⟨_, f756⟩, ⟨_, f757⟩, ⟨_, f758⟩, ⟨_, f759⟩, ⟨_, f760⟩⟩⟩
def QA0 (Z : State) (d mem pos siz mrk m0 p0 k0 m1 p1 k1 : Addr) (rd : Int32) (fsz fm0 fp0 fk0 fm1 fp1 fk1 : Nat → Int32) (val : Int32) (h0 : Heap) (n0 : Nat) (v : Option Value) (h : Heap) (L : List Loc) : Prop := v = none ∧ Fr n0 L ∧ Keep h0 h [m0, p0, siz] ∧ Dom Z h d mem pos siz mrk m0 p0 k0 m1 p1 k1 rd (own_up fsz 0 (1 : Int32)) (own_sm fm0 (fp0 val.toNatClampNeg) (0 : Int32)) (own_sp fm0 fp0 (fp0 val.toNatClampNeg) (0 : Int32)) (fk0) (fm1) (fp1) (fk1)
set_option maxRecDepth 65536 in
set_option maxHeartbeats 40000000 in
theorem rmA0 (l : Launch) (Z : State) (a0 : Array Value) (hw : ∀ d ∈ tables_1, d.before a0 Z = true) (ws : List Jvm.Cond) (d mem pos siz mrk m0 p0 k0 m1 p1 k1 : Addr) (rd : Int32) (fsz fm0 fp0 fk0 fm1 fp1 fk1 : Nat → Int32) (val : Int32) (h0 : Heap) (n0 : Nat) (Z0 : n0 ≤ h0.size) (hord : Ord n0 d mem pos siz mrk m0 p0 k0 m1 p1 k1) (hdom : Dom Z h0 d mem pos siz mrk m0 p0 k0 m1 p1 k1 rd (fsz) (fm0) (fp0) (fk0) (fm1) (fp1) (fk1)) (hval : ¬ val < 0 ∧ val < (4 : Int32)) (hfr : ¬ (fp0 val.toNatClampNeg) < 0 ∧ (fp0 val.toNatClampNeg) < (4 : Int32)) (hto : ¬ (0 : Int32) < 0 ∧ (0 : Int32) < (4 : Int32)) (hx0 : ¬ (fm0 (fp0 val.toNatClampNeg).toNatClampNeg) < 0 ∧ (fm0 (fp0 val.toNatClampNeg).toNatClampNeg) < (4 : Int32)) (hx1 : ¬ (own_sm fm0 (fp0 val.toNatClampNeg) (0 : Int32) (fp0 val.toNatClampNeg).toNatClampNeg) < 0 ∧ (own_sm fm0 (fp0 val.toNatClampNeg) (0 : Int32) (fp0 val.toNatClampNeg).toNatClampNeg) < (4 : Int32)) :
    MetFree l (⟨"com/example/ludarc/ludarc/engine/Domains", "assign", "(II)V"⟩ : MethodName) (head1 (Jvm.Cond.code (⟨"com/example/ludarc/ludarc/engine/Domains", "assign", "(II)V"⟩ : MethodName) prog_5_method_8_code 3 none :: ws) ({ frames := 1, cells := 0, slots := 0, locals := 17 } : Room)) (fun aa UU => aa = #[(.ref d), (.int (0 : Int32)), (.int val)] ∧ Z.Warmed39 UU.vm ∧ UU.heap = h0) (fun _ _ _ _ _ => True) (fun _ UU oo U' => ∃ v L, oo = .returned v ∧ QA0 Z d mem pos siz mrk m0 p0 k0 m1 p1 k1 rd fsz fm0 fp0 fk0 fm1 fp1 fk1 val h0 n0 v U'.heap L ∧ FrameEnd UU oo U' L ({ frames := 1, cells := 0, slots := 0, locals := 17 } : Room).cells ({ frames := 1, cells := 0, slots := 0, locals := 17 } : Room).slots) := by
  refine MetFree.of_bodySF (plainFor_of_name pn_6) hisR ?_
  intro p e s m args below meth c s₁ Bd hml0 hP hK
  obtain ⟨rfl, hZ, hh⟩ := hP
  have hx := Bd.exec
  have hby := Bd.bytes
  have hml : c.maxLocals = 3 := hml0
  have hown : s.vm.findClass "com/example/ludarc/ludarc/engine/Domains" = some m.cls := findClass_of_methodNamed Bd.named
  have hnm := (name_of_methodNamed Bd.named Bd.method).1
  have X0 : Stand p l e ({ frames := 1, cells := 0, slots := 0, locals := 17 } : Room) s m #[(.ref d), (.int (0 : Int32)), (.int val)] below meth c s₁ [] 0 0 := Stand.of_body Bd
  have e0 : s₁.heap = h0 := by rw [← hh, Bd.state]; rfl
  have N0 := Fr.nil n0
  obtain ⟨A0, hA0⟩ : ∃ A, A = s₁.setTop (entryFrame m #[(.ref d), (.int (0 : Int32)), (.int val)] 3) := ⟨_, rfl⟩
  have G0 : Go p e below A0 (s₁.setTop (mkF m 0 #[.val (.ref d), .val (.int (0 : Int32)), .val (.int val)] [])) := fun tq kq => by rw [hA0]; exact castTop (ef_rmA0 m d (0 : Int32) val) kq
  have hord0 := hord
  obtain ⟨o0, o1, o2, o3, o4, o5, o6, o7, o8, o9, o10⟩ := hord
  obtain ⟨Ed, D0_, D1_, D2_, D3_, D4_, ⟨cmem, Amem⟩, ⟨cpos, Apos⟩, ⟨cmrk, Amrk⟩, ⟨csiz, Asiz⟩, ⟨cm0, Am0⟩, ⟨cp0, Ap0⟩, ⟨ck0, Ak0⟩, ⟨cm1, Am1⟩, ⟨cp1, Ap1⟩, ⟨ck1, Ak1⟩⟩ := hdom
  have G761 : Go p e below A0 (s₁.setTop (mkF m 3 #[.val (.ref d), .val (.int (0 : Int32)), .val (.int val)] [(.ref d), (.int (0 : Int32)), (.ref d)])) := fun tq kq => G0 tq (by
    refine XS.aloadN X0.here hx rfl (hb hby d22_0) rfl rfl ?_
    show Steps p.tables e below (s₁.setTop (mkF m 1 #[.val (.ref d), .val (.int (0 : Int32)), .val (.int val)] [(.ref d)])) _
    refine XS.iloadN X0.here hx rfl (hb hby d22_1) rfl ?_
    show Steps p.tables e below (s₁.setTop (mkF m 2 #[.val (.ref d), .val (.int (0 : Int32)), .val (.int val)] [(.int (0 : Int32)), (.ref d)])) _
    refine XS.aloadN X0.here hx rfl (hb hby d22_2) rfl rfl ?_
    show Steps p.tables e below (s₁.setTop (mkF m 3 #[.val (.ref d), .val (.int (0 : Int32)), .val (.int val)] [(.ref d), (.int (0 : Int32)), (.ref d)])) _
    exact kq)
  obtain ⟨T762, X762, e762, st762⟩ := getF X0 hx hZ hown (host := "") (Or.inl (hw _ (List.mem_of_getElem? (i := 106) rfl))) Via.refl e0 D2_ (g := (mkF m 3 #[.val (.ref d), .val (.int (0 : Int32)), .val (.int val)] [(.ref d), (.int (0 : Int32)), (.ref d)])) rfl rfl (hb hby d22_3)
  have G763 : Go p e below A0 (T762.setTop (mkF m 6 #[.val (.ref d), .val (.int (0 : Int32)), .val (.int val)] [(.ref pos), (.int (0 : Int32)), (.ref d)])) := fun tq kq => G761 tq (st762 _ kq)
  have G764 : Go p e below A0 (T762.setTop (mkF m 7 #[.val (.ref d), .val (.int (0 : Int32)), .val (.int val)] [(.int (0 : Int32)), (.ref pos), (.int (0 : Int32)), (.ref d)])) := fun tq kq => G763 tq (by
    refine XS.iloadN X762.here hx rfl (hb hby d22_6) rfl ?_
    show Steps p.tables e below (T762.setTop (mkF m 7 #[.val (.ref d), .val (.int (0 : Int32)), .val (.int val)] [(.int (0 : Int32)), (.ref pos), (.int (0 : Int32)), (.ref d)])) _
    exact kq)
  obtain ⟨cl765, Ar765, q765, S765, M765, H765, Gf765⟩ := id Apos
  have hi766 : ¬ ((0 : Int32) < 0 ∨ cl765.slots.size ≤ ((0 : Int32)).toNatClampNeg) := (inb_of S765 ⟨by decide, by decide⟩)
  have G767 : Go p e below A0 (T762.setTop (mkF m 9 #[.val (.ref d), .val (.int (0 : Int32)), .val (.int val)] [(.int val), (.ref p0), (.int (0 : Int32)), (.ref d)])) := fun tq kq => G764 tq (by
    refine X762.aaload hx (j := (0 : Int32)) (v := (.ref p0)) (by rw [e762]; exact Ar765.1) (State.isArrayOf_alike hZ.alike Ar765.2.1) rfl Ar765.2.2 hi766 (H765.at hi766 rfl) (g := (mkF m 7 #[.val (.ref d), .val (.int (0 : Int32)), .val (.int val)] [(.int (0 : Int32)), (.ref pos), (.int (0 : Int32)), (.ref d)])) rfl rfl (hb hby d22_7) _ ?_
    show Steps p.tables e below (T762.setTop (mkF m 8 #[.val (.ref d), .val (.int (0 : Int32)), .val (.int val)] [(.ref p0), (.int (0 : Int32)), (.ref d)])) _
    refine XS.iloadN X762.here hx rfl (hb hby d22_8) rfl ?_
    show Steps p.tables e below (T762.setTop (mkF m 9 #[.val (.ref d), .val (.int (0 : Int32)), .val (.int val)] [(.int val), (.ref p0), (.int (0 : Int32)), (.ref d)])) _
    exact kq)
  obtain ⟨cl768, Ar768, q768, S768, M768, H768⟩ := id Ap0
  have hi769 : ¬ (val < 0 ∨ cl768.slots.size ≤ (val).toNatClampNeg) := (inb_of S768 hval)
  have G770 : Go p e below A0 (T762.setTop (mkF m 11 #[.val (.ref d), .val (.int (0 : Int32)), .val (.int val)] [(.int (0 : Int32)), (.int (fp0 (val).toNatClampNeg)), (.int (0 : Int32)), (.ref d)])) := fun tq kq => G767 tq (by
    refine X762.iaload hx (j := val) (v := (.int (fp0 (val).toNatClampNeg))) (by rw [e762]; exact Ar768.1) (State.isArrayOf_alike hZ.alike Ar768.2.1) Ar768.2.2 hi769 ((H768 _ (S768 ▸ Nat.lt_of_not_le fun y => hi769 (Or.inr y))).trans (congrArg some rfl)) (g := (mkF m 9 #[.val (.ref d), .val (.int (0 : Int32)), .val (.int val)] [(.int val), (.ref p0), (.int (0 : Int32)), (.ref d)])) rfl rfl (hb hby d22_9) _ ?_
    show Steps p.tables e below (T762.setTop (mkF m 10 #[.val (.ref d), .val (.int (0 : Int32)), .val (.int val)] [(.int (fp0 (val).toNatClampNeg)), (.int (0 : Int32)), (.ref d)])) _
    refine XS.iconst X762.here hx rfl (hb hby d22_10) ?_
    show Steps p.tables e below (T762.setTop (mkF m 11 #[.val (.ref d), .val (.int (0 : Int32)), .val (.int val)] [(.int (0 : Int32)), (.int (fp0 (val).toNatClampNeg)), (.int (0 : Int32)), (.ref d)])) _
    exact kq)
  obtain ⟨cq771, q771, q771'⟩ := Ed.cell
  obtain ⟨_, _, ⟨T771, L771, k771, n771⟩, -, X771, ⟨Lc771, hQ771, l771, y771, z771⟩, st771⟩ := X762.privateBack hx (y := (⟨"com/example/ludarc/ludarc/engine/Domains", "swap", "(III)V"⟩ : MethodName)) hown (mvT hZ (hw _ (List.mem_of_getElem? (i := 151) rfl))) (mvT hZ (hw _ (List.mem_of_getElem? (i := 152) rfl))) (own_sel (mvT hZ (hw _ (List.mem_of_getElem? (i := 85) rfl))) (mvP hZ (hw _ (List.mem_of_getElem? (i := 153) rfl))) (mvT hZ (hw _ (List.mem_of_getElem? (i := 152) rfl))) (by decide)) (Cond.privateMethod_at (mvP hZ (hw _ (List.mem_of_getElem? (i := 153) rfl)) (args := #[]))) (mvT hZ (hw _ (List.mem_of_getElem? (i := 154) rfl))) (by decide) (backOf (W := 0) (rmS0 l Z a0 hw [] d mem pos siz mrk m0 p0 k0 m1 p1 k1 rd fsz fm0 fp0 fk0 fm1 fp1 fk1 (fp0 (val).toNatClampNeg) (0 : Int32) h0 n0 Z0 hord0 ⟨Ed, D0_, D1_, D2_, D3_, D4_, ⟨_, Amem⟩, ⟨_, Apos⟩, ⟨_, Amrk⟩, ⟨_, Asiz⟩, ⟨_, Am0⟩, ⟨_, Ap0⟩, ⟨_, Ak0⟩, ⟨_, Am1⟩, ⟨_, Ap1⟩, ⟨_, Ak1⟩⟩ hfr hto hx0 hx1) hZ (hw _ (List.mem_of_getElem? (i := 154) rfl)) (hw _ (List.mem_of_getElem? (i := 86) rfl)) (by decide) (by decide)) (g := (mkF m 11 #[.val (.ref d), .val (.int (0 : Int32)), .val (.int val)] [(.int (0 : Int32)), (.int (fp0 (val).toNatClampNeg)), (.int (0 : Int32)), (.ref d)])) rfl (by rw [hml]; rfl) (Steps.refl _) (a := d) (by rw [e762]; exact q771) q771' (argsL := [(.int (0 : Int32)), (.int (fp0 (val).toNatClampNeg)), (.int (0 : Int32))]) (rest := []) (lenOf pd_8 rfl) rfl (by show 2 * 0 + _ ≤ _; exact Nat.le_of_eq rfl) (hb hby d22_11) (fun _ _ => ⟨rfl, e762, (by decide : 0 + 0 ≤ _), (by decide : 0 + 0 ≤ _)⟩)
  dsimp only [Pt.U, Pt.locs, Pt.cells, Pt.slots] at X771 l771 y771 z771 st771 hQ771
  obtain rfl : k771 = 0 := y771
  obtain rfl : n771 = 0 := z771
  obtain ⟨rfl, N771q, K771, dom771⟩ := hQ771
  have N771 : Fr n0 L771 := by rw [l771]; exact Fr.app N0 N771q
  obtain ⟨Ed771, D0_771, D1_771, D2_771, D3_771, D4_771, ⟨cmem771, Amem771⟩, ⟨cpos771, Apos771⟩, ⟨cmrk771, Amrk771⟩, ⟨csiz771, Asiz771⟩, ⟨cm0771, Am0771⟩, ⟨cp0771, Ap0771⟩, ⟨ck0771, Ak0771⟩, ⟨cm1771, Am1771⟩, ⟨cp1771, Ap1771⟩, ⟨ck1771, Ak1771⟩⟩ := dom771
  have G772 : Go p e below A0 (T771.setTop (mkF m 14 #[.val (.ref d), .val (.int (0 : Int32)), .val (.int val)] [])) := fun tq kq => G770 tq (st771.trans kq)
  have G773 : Go p e below A0 (T771.setTop (mkF m 15 #[.val (.ref d), .val (.int (0 : Int32)), .val (.int val)] [(.ref d)])) := fun tq kq => G772 tq (by
    refine XS.aloadN X771.here hx rfl (hb hby d22_14) rfl rfl ?_
    show Steps p.tables e below (T771.setTop (mkF m 15 #[.val (.ref d), .val (.int (0 : Int32)), .val (.int val)] [(.ref d)])) _
    exact kq)
  obtain ⟨T774, X774, e774, st774⟩ := getF X771 hx hZ hown (host := "") (Or.inl (hw _ (List.mem_of_getElem? (i := 108) rfl))) Via.refl rfl D3_771 (g := (mkF m 15 #[.val (.ref d), .val (.int (0 : Int32)), .val (.int val)] [(.ref d)])) rfl rfl (hb hby d22_15)
  have G775 : Go p e below A0 (T774.setTop (mkF m 18 #[.val (.ref d), .val (.int (0 : Int32)), .val (.int val)] [(.ref siz)])) := fun tq kq => G773 tq (st774 _ kq)
  have G776 : Go p e below A0 (T774.setTop (mkF m 20 #[.val (.ref d), .val (.int (0 : Int32)), .val (.int val)] [(.int (1 : Int32)), (.int (0 : Int32)), (.ref siz)])) := fun tq kq => G775 tq (by
    refine XS.iloadN X774.here hx rfl (hb hby d22_18) rfl ?_
    show Steps p.tables e below (T774.setTop (mkF m 19 #[.val (.ref d), .val (.int (0 : Int32)), .val (.int val)] [(.int (0 : Int32)), (.ref siz)])) _
    refine XS.iconst X774.here hx rfl (hb hby d22_19) ?_
    show Steps p.tables e below (T774.setTop (mkF m 20 #[.val (.ref d), .val (.int (0 : Int32)), .val (.int val)] [(.int (1 : Int32)), (.int (0 : Int32)), (.ref siz)])) _
    exact kq)
  obtain ⟨cl777, Ar777, q777, S777, M777, H777⟩ := id Asiz771
  have hi778 : ¬ ((0 : Int32) < 0 ∨ cl777.slots.size ≤ ((0 : Int32)).toNatClampNeg) := (inb_of S777 ⟨by decide, by decide⟩)
  obtain ⟨T779, h779, X779, e779, W779, st779⟩ := stI X774 hx hZ e774 Ar777 (j := (0 : Int32)) hi778 (g := (mkF m 20 #[.val (.ref d), .val (.int (0 : Int32)), .val (.int val)] [(.int (1 : Int32)), (.int (0 : Int32)), (.ref siz)])) rfl rfl (hb hby d22_20)
  have N779 := Fr.snoc X779 N771 (show @LE.le Nat _ n0 siz by omega)
  have V779 : Af Z h779 siz csiz771 .int (2 : Int32) (fun i => .int ((own_up fsz 0 (1 : Int32)) i)) := (Af.set Ar777 q777 S777 M777 H777 W779 hi778).fn (fun j _ => own_upf _ _ _ _ rfl j)
  have G780 : Go p e below A0 (T779.setTop (mkF m 21 #[.val (.ref d), .val (.int (0 : Int32)), .val (.int val)] [])) := fun tq kq => G776 tq (st779 _ kq)
  have f781 := (D0_771.other W779 (Or.inl (show @Ne Nat d siz by omega)))
  have f782 := (D1_771.other W779 (Or.inl (show @Ne Nat d siz by omega)))
  have f783 := (D2_771.other W779 (Or.inl (show @Ne Nat d siz by omega)))
  have f784 := (D3_771.other W779 (Or.inl (show @Ne Nat d siz by omega)))
  have f785 := (D4_771.other W779 (Or.inl (show @Ne Nat d siz by omega)))
  have f786 := (Ed771.wr W779)
  have f787 := (Amem771.other W779 (show @Ne Nat mem siz by omega))
  have f788 := (Apos771.other W779 (show @Ne Nat pos siz by omega))
  have f789 := (Amrk771.other W779 (Ne.symm (show @Ne Nat siz mrk by omega)))
  have f790 := (Am0771.other W779 (Ne.symm (show @Ne Nat siz m0 by omega)))
  have f791 := (Ap0771.other W779 (Ne.symm (show @Ne Nat siz p0 by omega)))
  have f792 := (Ak0771.other W779 (Ne.symm (show @Ne Nat siz k0 by omega)))
  have f793 := (Am1771.other W779 (Ne.symm (show @Ne Nat siz m1 by omega)))
  have f794 := (Ap1771.other W779 (Ne.symm (show @Ne Nat siz p1 by omega)))
  have f795 := (Ak1771.other W779 (Ne.symm (show @Ne Nat siz k1 by omega)))
  obtain ⟨fs, hr, hrun, hended, hW, hsame⟩ := X779.leave (v := none) (fun _ => rfl)
  refine ⟨_, _, (by rw [← hA0]; exact G780 _ (X779.returnOut hx Bd.returns (hb hby d22_21) hr)), hrun, hended, _, _, rfl, ?_, ⟨_, rfl⟩, hW, hsame.mono (by decide) (by decide)⟩
  show QA0 Z d mem pos siz mrk m0 p0 k0 m1 p1 k1 rd fsz fm0 fp0 fk0 fm1 fp1 fk1 val h0 n0 _ T779.heap _
  rw [e779]
  exact ⟨rfl, N779, (((Keep.refl h0 [m0, p0, siz]).trans K771 (allS (P := fun x => x ∈ [m0, p0, siz] ∨ h0.size ≤ x) (Or.inl (List.mem_of_getElem? (i := 0) rfl)) (allS (P := fun x => x ∈ [m0, p0, siz] ∨ h0.size ≤ x) (Or.inl (List.mem_of_getElem? (i := 1) rfl)) all0))).wr W779 (Or.inl (List.mem_of_getElem? (i := 2) rfl))), ⟨f786, f781, f782, f783, f784, f785, ⟨_, f787⟩, ⟨_, f788⟩, ⟨_, f789⟩, ⟨_, V779⟩, ⟨_, f790⟩, ⟨_, f791⟩, ⟨_, f792⟩, ⟨_, f793⟩, ⟨_, f794⟩, ⟨_, f795⟩⟩⟩
set_option maxRecDepth 65536 in
set_option maxHeartbeats 40000000 in
theorem rmC0_0 (l : Launch) (Z : State) (a0 : Array Value) (hw : ∀ d ∈ tables_1, d.before a0 Z = true) (ws : List Jvm.Cond) (d mem pos siz mrk m0 p0 k0 m1 p1 k1 : Addr) (rd : Int32) (fsz fm0 fp0 fk0 fm1 fp1 fk1 : Nat → Int32) (h0 : Heap) (n0 : Nat) (Z0 : n0 ≤ h0.size) (hord : Ord n0 d mem pos siz mrk m0 p0 k0 m1 p1 k1) (hdom : Dom Z h0 d mem pos siz mrk m0 p0 k0 m1 p1 k1 rd (fsz) (fm0) (fp0) (fk0) (fm1) (fp1) (fk1)) :
    MetFree l (⟨"com/example/ludarc/ludarc/engine/Domains", "contains", "(II)Z"⟩ : MethodName) (head1 (Jvm.Cond.code (⟨"com/example/ludarc/ludarc/engine/Domains", "contains", "(II)Z"⟩ : MethodName) prog_5_method_5_code 3 (some .boolean) :: ws) ({ frames := 0, cells := 0, slots := 0, locals := 0 } : Room)) (fun aa UU => aa = #[(.ref d), (.int (0 : Int32)), (.int (0 : Int32))] ∧ Z.Warmed39 UU.vm ∧ UU.heap = h0) (fun _ _ _ _ _ => True) (fun _ UU oo U' => ∃ v L, oo = .returned v ∧ Qr (.int (own_b ((fp0 0) < (fsz 0)))) h0 n0 v U'.heap L ∧ FrameEnd UU oo U' L ({ frames := 0, cells := 0, slots := 0, locals := 0 } : Room).cells ({ frames := 0, cells := 0, slots := 0, locals := 0 } : Room).slots) := by
  refine MetFree.of_bodySF (plainFor_of_name pn_6) hisR ?_
  intro p e s m args below meth c s₁ Bd hml0 hP hK
  obtain ⟨rfl, hZ, hh⟩ := hP
  have hx := Bd.exec
  have hby := Bd.bytes
  have hml : c.maxLocals = 3 := hml0
  have hown : s.vm.findClass "com/example/ludarc/ludarc/engine/Domains" = some m.cls := findClass_of_methodNamed Bd.named
  have hnm := (name_of_methodNamed Bd.named Bd.method).1
  have X0 : Stand p l e ({ frames := 0, cells := 0, slots := 0, locals := 0 } : Room) s m #[(.ref d), (.int (0 : Int32)), (.int (0 : Int32))] below meth c s₁ [] 0 0 := Stand.of_body Bd
  have e0 : s₁.heap = h0 := by rw [← hh, Bd.state]; rfl
  have N0 := Fr.nil n0
  obtain ⟨A0, hA0⟩ : ∃ A, A = s₁.setTop (entryFrame m #[(.ref d), (.int (0 : Int32)), (.int (0 : Int32))] 3) := ⟨_, rfl⟩
  have G0 : Go p e below A0 (s₁.setTop (mkF m 0 #[.val (.ref d), .val (.int (0 : Int32)), .val (.int (0 : Int32))] [])) := fun tq kq => by rw [hA0]; exact castTop (ef_rmC0_0 m d (0 : Int32) (0 : Int32)) kq
  obtain ⟨o0, o1, o2, o3, o4, o5, o6, o7, o8, o9, o10⟩ := hord
  obtain ⟨Ed, D0_, D1_, D2_, D3_, D4_, ⟨cmem, Amem⟩, ⟨cpos, Apos⟩, ⟨cmrk, Amrk⟩, ⟨csiz, Asiz⟩, ⟨cm0, Am0⟩, ⟨cp0, Ap0⟩, ⟨ck0, Ak0⟩, ⟨cm1, Am1⟩, ⟨cp1, Ap1⟩, ⟨ck1, Ak1⟩⟩ := hdom
  have G796 : Go p e below A0 (s₁.setTop (mkF m 1 #[.val (.ref d), .val (.int (0 : Int32)), .val (.int (0 : Int32))] [(.ref d)])) := fun tq kq => G0 tq (by
    refine XS.aloadN X0.here hx rfl (hb hby d21_0) rfl rfl ?_
    show Steps p.tables e below (s₁.setTop (mkF m 1 #[.val (.ref d), .val (.int (0 : Int32)), .val (.int (0 : Int32))] [(.ref d)])) _
    exact kq)
  obtain ⟨T797, X797, e797, st797⟩ := getF X0 hx hZ hown (host := "") (Or.inl (hw _ (List.mem_of_getElem? (i := 106) rfl))) Via.refl e0 D2_ (g := (mkF m 1 #[.val (.ref d), .val (.int (0 : Int32)), .val (.int (0 : Int32))] [(.ref d)])) rfl rfl (hb hby d21_1)
  have G798 : Go p e below A0 (T797.setTop (mkF m 4 #[.val (.ref d), .val (.int (0 : Int32)), .val (.int (0 : Int32))] [(.ref pos)])) := fun tq kq => G796 tq (st797 _ kq)
  have G799 : Go p e below A0 (T797.setTop (mkF m 5 #[.val (.ref d), .val (.int (0 : Int32)), .val (.int (0 : Int32))] [(.int (0 : Int32)), (.ref pos)])) := fun tq kq => G798 tq (by
    refine XS.iloadN X797.here hx rfl (hb hby d21_4) rfl ?_
    show Steps p.tables e below (T797.setTop (mkF m 5 #[.val (.ref d), .val (.int (0 : Int32)), .val (.int (0 : Int32))] [(.int (0 : Int32)), (.ref pos)])) _
    exact kq)
  obtain ⟨cl800, Ar800, q800, S800, M800, H800, Gf800⟩ := id Apos
  have hi801 : ¬ ((0 : Int32) < 0 ∨ cl800.slots.size ≤ ((0 : Int32)).toNatClampNeg) := (inb_of S800 ⟨by decide, by decide⟩)
  have G802 : Go p e below A0 (T797.setTop (mkF m 7 #[.val (.ref d), .val (.int (0 : Int32)), .val (.int (0 : Int32))] [(.int (0 : Int32)), (.ref p0)])) := fun tq kq => G799 tq (by
    refine X797.aaload hx (j := (0 : Int32)) (v := (.ref p0)) (by rw [e797]; exact Ar800.1) (State.isArrayOf_alike hZ.alike Ar800.2.1) rfl Ar800.2.2 hi801 (H800.at hi801 rfl) (g := (mkF m 5 #[.val (.ref d), .val (.int (0 : Int32)), .val (.int (0 : Int32))] [(.int (0 : Int32)), (.ref pos)])) rfl rfl (hb hby d21_5) _ ?_
    show Steps p.tables e below (T797.setTop (mkF m 6 #[.val (.ref d), .val (.int (0 : Int32)), .val (.int (0 : Int32))] [(.ref p0)])) _
    refine XS.iloadN X797.here hx rfl (hb hby d21_6) rfl ?_
    show Steps p.tables e below (T797.setTop (mkF m 7 #[.val (.ref d), .val (.int (0 : Int32)), .val (.int (0 : Int32))] [(.int (0 : Int32)), (.ref p0)])) _
    exact kq)
  obtain ⟨cl803, Ar803, q803, S803, M803, H803⟩ := id Ap0
  have hi804 : ¬ ((0 : Int32) < 0 ∨ cl803.slots.size ≤ ((0 : Int32)).toNatClampNeg) := (inb_of S803 ⟨by decide, by decide⟩)
  have G805 : Go p e below A0 (T797.setTop (mkF m 9 #[.val (.ref d), .val (.int (0 : Int32)), .val (.int (0 : Int32))] [(.ref d), (.int (fp0 0))])) := fun tq kq => G802 tq (by
    refine X797.iaload hx (j := (0 : Int32)) (v := (.int (fp0 0))) (by rw [e797]; exact Ar803.1) (State.isArrayOf_alike hZ.alike Ar803.2.1) Ar803.2.2 hi804 ((H803 _ (S803 ▸ Nat.lt_of_not_le fun y => hi804 (Or.inr y))).trans (congrArg some rfl)) (g := (mkF m 7 #[.val (.ref d), .val (.int (0 : Int32)), .val (.int (0 : Int32))] [(.int (0 : Int32)), (.ref p0)])) rfl rfl (hb hby d21_7) _ ?_
    show Steps p.tables e below (T797.setTop (mkF m 8 #[.val (.ref d), .val (.int (0 : Int32)), .val (.int (0 : Int32))] [(.int (fp0 0))])) _
    refine XS.aloadN X797.here hx rfl (hb hby d21_8) rfl rfl ?_
    show Steps p.tables e below (T797.setTop (mkF m 9 #[.val (.ref d), .val (.int (0 : Int32)), .val (.int (0 : Int32))] [(.ref d), (.int (fp0 0))])) _
    exact kq)
  obtain ⟨T806, X806, e806, st806⟩ := getF X797 hx hZ hown (host := "") (Or.inl (hw _ (List.mem_of_getElem? (i := 108) rfl))) Via.refl e797 D3_ (g := (mkF m 9 #[.val (.ref d), .val (.int (0 : Int32)), .val (.int (0 : Int32))] [(.ref d), (.int (fp0 0))])) rfl rfl (hb hby d21_9)
  have G807 : Go p e below A0 (T806.setTop (mkF m 12 #[.val (.ref d), .val (.int (0 : Int32)), .val (.int (0 : Int32))] [(.ref siz), (.int (fp0 0))])) := fun tq kq => G805 tq (st806 _ kq)
  have G808 : Go p e below A0 (T806.setTop (mkF m 13 #[.val (.ref d), .val (.int (0 : Int32)), .val (.int (0 : Int32))] [(.int (0 : Int32)), (.ref siz), (.int (fp0 0))])) := fun tq kq => G807 tq (by
    refine XS.iloadN X806.here hx rfl (hb hby d21_12) rfl ?_
    show Steps p.tables e below (T806.setTop (mkF m 13 #[.val (.ref d), .val (.int (0 : Int32)), .val (.int (0 : Int32))] [(.int (0 : Int32)), (.ref siz), (.int (fp0 0))])) _
    exact kq)
  obtain ⟨cl809, Ar809, q809, S809, M809, H809⟩ := id Asiz
  have hi810 : ¬ ((0 : Int32) < 0 ∨ cl809.slots.size ≤ ((0 : Int32)).toNatClampNeg) := (inb_of S809 ⟨by decide, by decide⟩)
  have G811 : Go p e below A0 (T806.setTop (mkF m 14 #[.val (.ref d), .val (.int (0 : Int32)), .val (.int (0 : Int32))] [(.int (fsz 0)), (.int (fp0 0))])) := fun tq kq => G808 tq (by
    refine X806.iaload hx (j := (0 : Int32)) (v := (.int (fsz 0))) (by rw [e806]; exact Ar809.1) (State.isArrayOf_alike hZ.alike Ar809.2.1) Ar809.2.2 hi810 ((H809 _ (S809 ▸ Nat.lt_of_not_le fun y => hi810 (Or.inr y))).trans (congrArg some rfl)) (g := (mkF m 13 #[.val (.ref d), .val (.int (0 : Int32)), .val (.int (0 : Int32))] [(.int (0 : Int32)), (.ref siz), (.int (fp0 0))])) rfl rfl (hb hby d21_13) _ ?_
    show Steps p.tables e below (T806.setTop (mkF m 14 #[.val (.ref d), .val (.int (0 : Int32)), .val (.int (0 : Int32))] [(.int (fsz 0)), (.int (fp0 0))])) _
    exact kq)
  by_cases hc812 : (fp0 0) < (fsz 0)
  · have G813 : Go p e below A0 (T806.setTop (mkF m 22 #[.val (.ref d), .val (.int (0 : Int32)), .val (.int (0 : Int32))] [(.int (1 : Int32))])) := fun tq kq => G811 tq (by
      refine XS.icmpNo X806.here hx rfl (hb hby d21_14) rfl (tlt hc812).2.1 ?_
      show Steps p.tables e below (T806.setTop (mkF m 17 #[.val (.ref d), .val (.int (0 : Int32)), .val (.int (0 : Int32))] [])) _
      refine XS.iconst X806.here hx rfl (hb hby d21_17) ?_
      show Steps p.tables e below (T806.setTop (mkF m 18 #[.val (.ref d), .val (.int (0 : Int32)), .val (.int (0 : Int32))] [(.int (1 : Int32))])) _
      refine XS.goto X806.here hx rfl (pc0 := 18) (pc' := 22) rfl (hb hby d21_18) (by decide) (by decide) ?_
      show Steps p.tables e below (T806.setTop (mkF m 22 #[.val (.ref d), .val (.int (0 : Int32)), .val (.int (0 : Int32))] [(.int (1 : Int32))])) _
      exact kq)
    obtain ⟨fs, hr, hrun, hended, hW, hsame⟩ := X806.leave (v := some (.int (nar .boolean (1 : Int32)))) (fun h => by rw [Bd.returns] at h; cases h)
    refine ⟨_, _, (by rw [← hA0]; exact G813 _ (retN X806 hx (t := .boolean) Bd.returns (by simp) (hb hby d21_22) hr)), hrun, hended, _, _, rfl, ?_, ⟨_, rfl⟩, hW, hsame.mono (by decide) (by decide)⟩
    exact ⟨(by rw [show own_b ((fp0 0) < (fsz 0)) = (1 : Int32) from by simp only [own_b, hc812, not_true_eq_false, not_false_eq_true, if_true, if_false, or_true, true_or, or_false, false_or, and_true, true_and, and_false, false_and, and_self, or_self]]; rfl), N0, e806⟩
  · have G814 : Go p e below A0 (T806.setTop (mkF m 22 #[.val (.ref d), .val (.int (0 : Int32)), .val (.int (0 : Int32))] [(.int (0 : Int32))])) := fun tq kq => G811 tq (by
      refine XS.icmpYes X806.here hx rfl (pc0 := 14) (pc' := 21) rfl (hb hby d21_14) rfl (flt hc812).2.1 (by decide) (by decide) ?_
      show Steps p.tables e below (T806.setTop (mkF m 21 #[.val (.ref d), .val (.int (0 : Int32)), .val (.int (0 : Int32))] [])) _
      refine XS.iconst X806.here hx rfl (hb hby d21_21) ?_
      show Steps p.tables e below (T806.setTop (mkF m 22 #[.val (.ref d), .val (.int (0 : Int32)), .val (.int (0 : Int32))] [(.int (0 : Int32))])) _
      exact kq)
    obtain ⟨fs, hr, hrun, hended, hW, hsame⟩ := X806.leave (v := some (.int (nar .boolean (0 : Int32)))) (fun h => by rw [Bd.returns] at h; cases h)
    refine ⟨_, _, (by rw [← hA0]; exact G814 _ (retN X806 hx (t := .boolean) Bd.returns (by simp) (hb hby d21_22) hr)), hrun, hended, _, _, rfl, ?_, ⟨_, rfl⟩, hW, hsame.mono (by decide) (by decide)⟩
    exact ⟨(by rw [show own_b ((fp0 0) < (fsz 0)) = (0 : Int32) from by simp only [own_b, hc812, not_true_eq_false, not_false_eq_true, if_true, if_false, or_true, true_or, or_false, false_or, and_true, true_and, and_false, false_and, and_self, or_self]]; rfl), N0, e806⟩
set_option maxRecDepth 65536 in
set_option maxHeartbeats 40000000 in
theorem rmC0_1 (l : Launch) (Z : State) (a0 : Array Value) (hw : ∀ d ∈ tables_1, d.before a0 Z = true) (ws : List Jvm.Cond) (d mem pos siz mrk m0 p0 k0 m1 p1 k1 : Addr) (rd : Int32) (fsz fm0 fp0 fk0 fm1 fp1 fk1 : Nat → Int32) (h0 : Heap) (n0 : Nat) (Z0 : n0 ≤ h0.size) (hord : Ord n0 d mem pos siz mrk m0 p0 k0 m1 p1 k1) (hdom : Dom Z h0 d mem pos siz mrk m0 p0 k0 m1 p1 k1 rd (fsz) (fm0) (fp0) (fk0) (fm1) (fp1) (fk1)) :
    MetFree l (⟨"com/example/ludarc/ludarc/engine/Domains", "contains", "(II)Z"⟩ : MethodName) (head1 (Jvm.Cond.code (⟨"com/example/ludarc/ludarc/engine/Domains", "contains", "(II)Z"⟩ : MethodName) prog_5_method_5_code 3 (some .boolean) :: ws) ({ frames := 0, cells := 0, slots := 0, locals := 0 } : Room)) (fun aa UU => aa = #[(.ref d), (.int (0 : Int32)), (.int (1 : Int32))] ∧ Z.Warmed39 UU.vm ∧ UU.heap = h0) (fun _ _ _ _ _ => True) (fun _ UU oo U' => ∃ v L, oo = .returned v ∧ Qr (.int (own_b ((fp0 1) < (fsz 0)))) h0 n0 v U'.heap L ∧ FrameEnd UU oo U' L ({ frames := 0, cells := 0, slots := 0, locals := 0 } : Room).cells ({ frames := 0, cells := 0, slots := 0, locals := 0 } : Room).slots) := by
  refine MetFree.of_bodySF (plainFor_of_name pn_6) hisR ?_
  intro p e s m args below meth c s₁ Bd hml0 hP hK
  obtain ⟨rfl, hZ, hh⟩ := hP
  have hx := Bd.exec
  have hby := Bd.bytes
  have hml : c.maxLocals = 3 := hml0
  have hown : s.vm.findClass "com/example/ludarc/ludarc/engine/Domains" = some m.cls := findClass_of_methodNamed Bd.named
  have hnm := (name_of_methodNamed Bd.named Bd.method).1
  have X0 : Stand p l e ({ frames := 0, cells := 0, slots := 0, locals := 0 } : Room) s m #[(.ref d), (.int (0 : Int32)), (.int (1 : Int32))] below meth c s₁ [] 0 0 := Stand.of_body Bd
  have e0 : s₁.heap = h0 := by rw [← hh, Bd.state]; rfl
  have N0 := Fr.nil n0
  obtain ⟨A0, hA0⟩ : ∃ A, A = s₁.setTop (entryFrame m #[(.ref d), (.int (0 : Int32)), (.int (1 : Int32))] 3) := ⟨_, rfl⟩
  have G0 : Go p e below A0 (s₁.setTop (mkF m 0 #[.val (.ref d), .val (.int (0 : Int32)), .val (.int (1 : Int32))] [])) := fun tq kq => by rw [hA0]; exact castTop (ef_rmC0_1 m d (0 : Int32) (1 : Int32)) kq
  obtain ⟨o0, o1, o2, o3, o4, o5, o6, o7, o8, o9, o10⟩ := hord
  obtain ⟨Ed, D0_, D1_, D2_, D3_, D4_, ⟨cmem, Amem⟩, ⟨cpos, Apos⟩, ⟨cmrk, Amrk⟩, ⟨csiz, Asiz⟩, ⟨cm0, Am0⟩, ⟨cp0, Ap0⟩, ⟨ck0, Ak0⟩, ⟨cm1, Am1⟩, ⟨cp1, Ap1⟩, ⟨ck1, Ak1⟩⟩ := hdom
  have G815 : Go p e below A0 (s₁.setTop (mkF m 1 #[.val (.ref d), .val (.int (0 : Int32)), .val (.int (1 : Int32))] [(.ref d)])) := fun tq kq => G0 tq (by
    refine XS.aloadN X0.here hx rfl (hb hby d21_0) rfl rfl ?_
    show Steps p.tables e below (s₁.setTop (mkF m 1 #[.val (.ref d), .val (.int (0 : Int32)), .val (.int (1 : Int32))] [(.ref d)])) _
    exact kq)
  obtain ⟨T816, X816, e816, st816⟩ := getF X0 hx hZ hown (host := "") (Or.inl (hw _ (List.mem_of_getElem? (i := 106) rfl))) Via.refl e0 D2_ (g := (mkF m 1 #[.val (.ref d), .val (.int (0 : Int32)), .val (.int (1 : Int32))] [(.ref d)])) rfl rfl (hb hby d21_1)
  have G817 : Go p e below A0 (T816.setTop (mkF m 4 #[.val (.ref d), .val (.int (0 : Int32)), .val (.int (1 : Int32))] [(.ref pos)])) := fun tq kq => G815 tq (st816 _ kq)
  have G818 : Go p e below A0 (T816.setTop (mkF m 5 #[.val (.ref d), .val (.int (0 : Int32)), .val (.int (1 : Int32))] [(.int (0 : Int32)), (.ref pos)])) := fun tq kq => G817 tq (by
    refine XS.iloadN X816.here hx rfl (hb hby d21_4) rfl ?_
    show Steps p.tables e below (T816.setTop (mkF m 5 #[.val (.ref d), .val (.int (0 : Int32)), .val (.int (1 : Int32))] [(.int (0 : Int32)), (.ref pos)])) _
    exact kq)
  obtain ⟨cl819, Ar819, q819, S819, M819, H819, Gf819⟩ := id Apos
  have hi820 : ¬ ((0 : Int32) < 0 ∨ cl819.slots.size ≤ ((0 : Int32)).toNatClampNeg) := (inb_of S819 ⟨by decide, by decide⟩)
  have G821 : Go p e below A0 (T816.setTop (mkF m 7 #[.val (.ref d), .val (.int (0 : Int32)), .val (.int (1 : Int32))] [(.int (1 : Int32)), (.ref p0)])) := fun tq kq => G818 tq (by
    refine X816.aaload hx (j := (0 : Int32)) (v := (.ref p0)) (by rw [e816]; exact Ar819.1) (State.isArrayOf_alike hZ.alike Ar819.2.1) rfl Ar819.2.2 hi820 (H819.at hi820 rfl) (g := (mkF m 5 #[.val (.ref d), .val (.int (0 : Int32)), .val (.int (1 : Int32))] [(.int (0 : Int32)), (.ref pos)])) rfl rfl (hb hby d21_5) _ ?_
    show Steps p.tables e below (T816.setTop (mkF m 6 #[.val (.ref d), .val (.int (0 : Int32)), .val (.int (1 : Int32))] [(.ref p0)])) _
    refine XS.iloadN X816.here hx rfl (hb hby d21_6) rfl ?_
    show Steps p.tables e below (T816.setTop (mkF m 7 #[.val (.ref d), .val (.int (0 : Int32)), .val (.int (1 : Int32))] [(.int (1 : Int32)), (.ref p0)])) _
    exact kq)
  obtain ⟨cl822, Ar822, q822, S822, M822, H822⟩ := id Ap0
  have hi823 : ¬ ((1 : Int32) < 0 ∨ cl822.slots.size ≤ ((1 : Int32)).toNatClampNeg) := (inb_of S822 ⟨by decide, by decide⟩)
  have G824 : Go p e below A0 (T816.setTop (mkF m 9 #[.val (.ref d), .val (.int (0 : Int32)), .val (.int (1 : Int32))] [(.ref d), (.int (fp0 1))])) := fun tq kq => G821 tq (by
    refine X816.iaload hx (j := (1 : Int32)) (v := (.int (fp0 1))) (by rw [e816]; exact Ar822.1) (State.isArrayOf_alike hZ.alike Ar822.2.1) Ar822.2.2 hi823 ((H822 _ (S822 ▸ Nat.lt_of_not_le fun y => hi823 (Or.inr y))).trans (congrArg some rfl)) (g := (mkF m 7 #[.val (.ref d), .val (.int (0 : Int32)), .val (.int (1 : Int32))] [(.int (1 : Int32)), (.ref p0)])) rfl rfl (hb hby d21_7) _ ?_
    show Steps p.tables e below (T816.setTop (mkF m 8 #[.val (.ref d), .val (.int (0 : Int32)), .val (.int (1 : Int32))] [(.int (fp0 1))])) _
    refine XS.aloadN X816.here hx rfl (hb hby d21_8) rfl rfl ?_
    show Steps p.tables e below (T816.setTop (mkF m 9 #[.val (.ref d), .val (.int (0 : Int32)), .val (.int (1 : Int32))] [(.ref d), (.int (fp0 1))])) _
    exact kq)
  obtain ⟨T825, X825, e825, st825⟩ := getF X816 hx hZ hown (host := "") (Or.inl (hw _ (List.mem_of_getElem? (i := 108) rfl))) Via.refl e816 D3_ (g := (mkF m 9 #[.val (.ref d), .val (.int (0 : Int32)), .val (.int (1 : Int32))] [(.ref d), (.int (fp0 1))])) rfl rfl (hb hby d21_9)
  have G826 : Go p e below A0 (T825.setTop (mkF m 12 #[.val (.ref d), .val (.int (0 : Int32)), .val (.int (1 : Int32))] [(.ref siz), (.int (fp0 1))])) := fun tq kq => G824 tq (st825 _ kq)
  have G827 : Go p e below A0 (T825.setTop (mkF m 13 #[.val (.ref d), .val (.int (0 : Int32)), .val (.int (1 : Int32))] [(.int (0 : Int32)), (.ref siz), (.int (fp0 1))])) := fun tq kq => G826 tq (by
    refine XS.iloadN X825.here hx rfl (hb hby d21_12) rfl ?_
    show Steps p.tables e below (T825.setTop (mkF m 13 #[.val (.ref d), .val (.int (0 : Int32)), .val (.int (1 : Int32))] [(.int (0 : Int32)), (.ref siz), (.int (fp0 1))])) _
    exact kq)
  obtain ⟨cl828, Ar828, q828, S828, M828, H828⟩ := id Asiz
  have hi829 : ¬ ((0 : Int32) < 0 ∨ cl828.slots.size ≤ ((0 : Int32)).toNatClampNeg) := (inb_of S828 ⟨by decide, by decide⟩)
  have G830 : Go p e below A0 (T825.setTop (mkF m 14 #[.val (.ref d), .val (.int (0 : Int32)), .val (.int (1 : Int32))] [(.int (fsz 0)), (.int (fp0 1))])) := fun tq kq => G827 tq (by
    refine X825.iaload hx (j := (0 : Int32)) (v := (.int (fsz 0))) (by rw [e825]; exact Ar828.1) (State.isArrayOf_alike hZ.alike Ar828.2.1) Ar828.2.2 hi829 ((H828 _ (S828 ▸ Nat.lt_of_not_le fun y => hi829 (Or.inr y))).trans (congrArg some rfl)) (g := (mkF m 13 #[.val (.ref d), .val (.int (0 : Int32)), .val (.int (1 : Int32))] [(.int (0 : Int32)), (.ref siz), (.int (fp0 1))])) rfl rfl (hb hby d21_13) _ ?_
    show Steps p.tables e below (T825.setTop (mkF m 14 #[.val (.ref d), .val (.int (0 : Int32)), .val (.int (1 : Int32))] [(.int (fsz 0)), (.int (fp0 1))])) _
    exact kq)
  by_cases hc831 : (fp0 1) < (fsz 0)
  · have G832 : Go p e below A0 (T825.setTop (mkF m 22 #[.val (.ref d), .val (.int (0 : Int32)), .val (.int (1 : Int32))] [(.int (1 : Int32))])) := fun tq kq => G830 tq (by
      refine XS.icmpNo X825.here hx rfl (hb hby d21_14) rfl (tlt hc831).2.1 ?_
      show Steps p.tables e below (T825.setTop (mkF m 17 #[.val (.ref d), .val (.int (0 : Int32)), .val (.int (1 : Int32))] [])) _
      refine XS.iconst X825.here hx rfl (hb hby d21_17) ?_
      show Steps p.tables e below (T825.setTop (mkF m 18 #[.val (.ref d), .val (.int (0 : Int32)), .val (.int (1 : Int32))] [(.int (1 : Int32))])) _
      refine XS.goto X825.here hx rfl (pc0 := 18) (pc' := 22) rfl (hb hby d21_18) (by decide) (by decide) ?_
      show Steps p.tables e below (T825.setTop (mkF m 22 #[.val (.ref d), .val (.int (0 : Int32)), .val (.int (1 : Int32))] [(.int (1 : Int32))])) _
      exact kq)
    obtain ⟨fs, hr, hrun, hended, hW, hsame⟩ := X825.leave (v := some (.int (nar .boolean (1 : Int32)))) (fun h => by rw [Bd.returns] at h; cases h)
    refine ⟨_, _, (by rw [← hA0]; exact G832 _ (retN X825 hx (t := .boolean) Bd.returns (by simp) (hb hby d21_22) hr)), hrun, hended, _, _, rfl, ?_, ⟨_, rfl⟩, hW, hsame.mono (by decide) (by decide)⟩
    exact ⟨(by rw [show own_b ((fp0 1) < (fsz 0)) = (1 : Int32) from by simp only [own_b, hc831, not_true_eq_false, not_false_eq_true, if_true, if_false, or_true, true_or, or_false, false_or, and_true, true_and, and_false, false_and, and_self, or_self]]; rfl), N0, e825⟩
  · have G833 : Go p e below A0 (T825.setTop (mkF m 22 #[.val (.ref d), .val (.int (0 : Int32)), .val (.int (1 : Int32))] [(.int (0 : Int32))])) := fun tq kq => G830 tq (by
      refine XS.icmpYes X825.here hx rfl (pc0 := 14) (pc' := 21) rfl (hb hby d21_14) rfl (flt hc831).2.1 (by decide) (by decide) ?_
      show Steps p.tables e below (T825.setTop (mkF m 21 #[.val (.ref d), .val (.int (0 : Int32)), .val (.int (1 : Int32))] [])) _
      refine XS.iconst X825.here hx rfl (hb hby d21_21) ?_
      show Steps p.tables e below (T825.setTop (mkF m 22 #[.val (.ref d), .val (.int (0 : Int32)), .val (.int (1 : Int32))] [(.int (0 : Int32))])) _
      exact kq)
    obtain ⟨fs, hr, hrun, hended, hW, hsame⟩ := X825.leave (v := some (.int (nar .boolean (0 : Int32)))) (fun h => by rw [Bd.returns] at h; cases h)
    refine ⟨_, _, (by rw [← hA0]; exact G833 _ (retN X825 hx (t := .boolean) Bd.returns (by simp) (hb hby d21_22) hr)), hrun, hended, _, _, rfl, ?_, ⟨_, rfl⟩, hW, hsame.mono (by decide) (by decide)⟩
    exact ⟨(by rw [show own_b ((fp0 1) < (fsz 0)) = (0 : Int32) from by simp only [own_b, hc831, not_true_eq_false, not_false_eq_true, if_true, if_false, or_true, true_or, or_false, false_or, and_true, true_and, and_false, false_and, and_self, or_self]]; rfl), N0, e825⟩
set_option maxRecDepth 65536 in
set_option maxHeartbeats 40000000 in
theorem rmC0_2 (l : Launch) (Z : State) (a0 : Array Value) (hw : ∀ d ∈ tables_1, d.before a0 Z = true) (ws : List Jvm.Cond) (d mem pos siz mrk m0 p0 k0 m1 p1 k1 : Addr) (rd : Int32) (fsz fm0 fp0 fk0 fm1 fp1 fk1 : Nat → Int32) (h0 : Heap) (n0 : Nat) (Z0 : n0 ≤ h0.size) (hord : Ord n0 d mem pos siz mrk m0 p0 k0 m1 p1 k1) (hdom : Dom Z h0 d mem pos siz mrk m0 p0 k0 m1 p1 k1 rd (fsz) (fm0) (fp0) (fk0) (fm1) (fp1) (fk1)) :
    MetFree l (⟨"com/example/ludarc/ludarc/engine/Domains", "contains", "(II)Z"⟩ : MethodName) (head1 (Jvm.Cond.code (⟨"com/example/ludarc/ludarc/engine/Domains", "contains", "(II)Z"⟩ : MethodName) prog_5_method_5_code 3 (some .boolean) :: ws) ({ frames := 0, cells := 0, slots := 0, locals := 0 } : Room)) (fun aa UU => aa = #[(.ref d), (.int (0 : Int32)), (.int (2 : Int32))] ∧ Z.Warmed39 UU.vm ∧ UU.heap = h0) (fun _ _ _ _ _ => True) (fun _ UU oo U' => ∃ v L, oo = .returned v ∧ Qr (.int (own_b ((fp0 2) < (fsz 0)))) h0 n0 v U'.heap L ∧ FrameEnd UU oo U' L ({ frames := 0, cells := 0, slots := 0, locals := 0 } : Room).cells ({ frames := 0, cells := 0, slots := 0, locals := 0 } : Room).slots) := by
  refine MetFree.of_bodySF (plainFor_of_name pn_6) hisR ?_
  intro p e s m args below meth c s₁ Bd hml0 hP hK
  obtain ⟨rfl, hZ, hh⟩ := hP
  have hx := Bd.exec
  have hby := Bd.bytes
  have hml : c.maxLocals = 3 := hml0
  have hown : s.vm.findClass "com/example/ludarc/ludarc/engine/Domains" = some m.cls := findClass_of_methodNamed Bd.named
  have hnm := (name_of_methodNamed Bd.named Bd.method).1
  have X0 : Stand p l e ({ frames := 0, cells := 0, slots := 0, locals := 0 } : Room) s m #[(.ref d), (.int (0 : Int32)), (.int (2 : Int32))] below meth c s₁ [] 0 0 := Stand.of_body Bd
  have e0 : s₁.heap = h0 := by rw [← hh, Bd.state]; rfl
  have N0 := Fr.nil n0
  obtain ⟨A0, hA0⟩ : ∃ A, A = s₁.setTop (entryFrame m #[(.ref d), (.int (0 : Int32)), (.int (2 : Int32))] 3) := ⟨_, rfl⟩
  have G0 : Go p e below A0 (s₁.setTop (mkF m 0 #[.val (.ref d), .val (.int (0 : Int32)), .val (.int (2 : Int32))] [])) := fun tq kq => by rw [hA0]; exact castTop (ef_rmC0_2 m d (0 : Int32) (2 : Int32)) kq
  obtain ⟨o0, o1, o2, o3, o4, o5, o6, o7, o8, o9, o10⟩ := hord
  obtain ⟨Ed, D0_, D1_, D2_, D3_, D4_, ⟨cmem, Amem⟩, ⟨cpos, Apos⟩, ⟨cmrk, Amrk⟩, ⟨csiz, Asiz⟩, ⟨cm0, Am0⟩, ⟨cp0, Ap0⟩, ⟨ck0, Ak0⟩, ⟨cm1, Am1⟩, ⟨cp1, Ap1⟩, ⟨ck1, Ak1⟩⟩ := hdom
  have G834 : Go p e below A0 (s₁.setTop (mkF m 1 #[.val (.ref d), .val (.int (0 : Int32)), .val (.int (2 : Int32))] [(.ref d)])) := fun tq kq => G0 tq (by
    refine XS.aloadN X0.here hx rfl (hb hby d21_0) rfl rfl ?_
    show Steps p.tables e below (s₁.setTop (mkF m 1 #[.val (.ref d), .val (.int (0 : Int32)), .val (.int (2 : Int32))] [(.ref d)])) _
    exact kq)
  obtain ⟨T835, X835, e835, st835⟩ := getF X0 hx hZ hown (host := "") (Or.inl (hw _ (List.mem_of_getElem? (i := 106) rfl))) Via.refl e0 D2_ (g := (mkF m 1 #[.val (.ref d), .val (.int (0 : Int32)), .val (.int (2 : Int32))] [(.ref d)])) rfl rfl (hb hby d21_1)
  have G836 : Go p e below A0 (T835.setTop (mkF m 4 #[.val (.ref d), .val (.int (0 : Int32)), .val (.int (2 : Int32))] [(.ref pos)])) := fun tq kq => G834 tq (st835 _ kq)
  have G837 : Go p e below A0 (T835.setTop (mkF m 5 #[.val (.ref d), .val (.int (0 : Int32)), .val (.int (2 : Int32))] [(.int (0 : Int32)), (.ref pos)])) := fun tq kq => G836 tq (by
    refine XS.iloadN X835.here hx rfl (hb hby d21_4) rfl ?_
    show Steps p.tables e below (T835.setTop (mkF m 5 #[.val (.ref d), .val (.int (0 : Int32)), .val (.int (2 : Int32))] [(.int (0 : Int32)), (.ref pos)])) _
    exact kq)
  obtain ⟨cl838, Ar838, q838, S838, M838, H838, Gf838⟩ := id Apos
  have hi839 : ¬ ((0 : Int32) < 0 ∨ cl838.slots.size ≤ ((0 : Int32)).toNatClampNeg) := (inb_of S838 ⟨by decide, by decide⟩)
  have G840 : Go p e below A0 (T835.setTop (mkF m 7 #[.val (.ref d), .val (.int (0 : Int32)), .val (.int (2 : Int32))] [(.int (2 : Int32)), (.ref p0)])) := fun tq kq => G837 tq (by
    refine X835.aaload hx (j := (0 : Int32)) (v := (.ref p0)) (by rw [e835]; exact Ar838.1) (State.isArrayOf_alike hZ.alike Ar838.2.1) rfl Ar838.2.2 hi839 (H838.at hi839 rfl) (g := (mkF m 5 #[.val (.ref d), .val (.int (0 : Int32)), .val (.int (2 : Int32))] [(.int (0 : Int32)), (.ref pos)])) rfl rfl (hb hby d21_5) _ ?_
    show Steps p.tables e below (T835.setTop (mkF m 6 #[.val (.ref d), .val (.int (0 : Int32)), .val (.int (2 : Int32))] [(.ref p0)])) _
    refine XS.iloadN X835.here hx rfl (hb hby d21_6) rfl ?_
    show Steps p.tables e below (T835.setTop (mkF m 7 #[.val (.ref d), .val (.int (0 : Int32)), .val (.int (2 : Int32))] [(.int (2 : Int32)), (.ref p0)])) _
    exact kq)
  obtain ⟨cl841, Ar841, q841, S841, M841, H841⟩ := id Ap0
  have hi842 : ¬ ((2 : Int32) < 0 ∨ cl841.slots.size ≤ ((2 : Int32)).toNatClampNeg) := (inb_of S841 ⟨by decide, by decide⟩)
  have G843 : Go p e below A0 (T835.setTop (mkF m 9 #[.val (.ref d), .val (.int (0 : Int32)), .val (.int (2 : Int32))] [(.ref d), (.int (fp0 2))])) := fun tq kq => G840 tq (by
    refine X835.iaload hx (j := (2 : Int32)) (v := (.int (fp0 2))) (by rw [e835]; exact Ar841.1) (State.isArrayOf_alike hZ.alike Ar841.2.1) Ar841.2.2 hi842 ((H841 _ (S841 ▸ Nat.lt_of_not_le fun y => hi842 (Or.inr y))).trans (congrArg some rfl)) (g := (mkF m 7 #[.val (.ref d), .val (.int (0 : Int32)), .val (.int (2 : Int32))] [(.int (2 : Int32)), (.ref p0)])) rfl rfl (hb hby d21_7) _ ?_
    show Steps p.tables e below (T835.setTop (mkF m 8 #[.val (.ref d), .val (.int (0 : Int32)), .val (.int (2 : Int32))] [(.int (fp0 2))])) _
    refine XS.aloadN X835.here hx rfl (hb hby d21_8) rfl rfl ?_
    show Steps p.tables e below (T835.setTop (mkF m 9 #[.val (.ref d), .val (.int (0 : Int32)), .val (.int (2 : Int32))] [(.ref d), (.int (fp0 2))])) _
    exact kq)
  obtain ⟨T844, X844, e844, st844⟩ := getF X835 hx hZ hown (host := "") (Or.inl (hw _ (List.mem_of_getElem? (i := 108) rfl))) Via.refl e835 D3_ (g := (mkF m 9 #[.val (.ref d), .val (.int (0 : Int32)), .val (.int (2 : Int32))] [(.ref d), (.int (fp0 2))])) rfl rfl (hb hby d21_9)
  have G845 : Go p e below A0 (T844.setTop (mkF m 12 #[.val (.ref d), .val (.int (0 : Int32)), .val (.int (2 : Int32))] [(.ref siz), (.int (fp0 2))])) := fun tq kq => G843 tq (st844 _ kq)
  have G846 : Go p e below A0 (T844.setTop (mkF m 13 #[.val (.ref d), .val (.int (0 : Int32)), .val (.int (2 : Int32))] [(.int (0 : Int32)), (.ref siz), (.int (fp0 2))])) := fun tq kq => G845 tq (by
    refine XS.iloadN X844.here hx rfl (hb hby d21_12) rfl ?_
    show Steps p.tables e below (T844.setTop (mkF m 13 #[.val (.ref d), .val (.int (0 : Int32)), .val (.int (2 : Int32))] [(.int (0 : Int32)), (.ref siz), (.int (fp0 2))])) _
    exact kq)
  obtain ⟨cl847, Ar847, q847, S847, M847, H847⟩ := id Asiz
  have hi848 : ¬ ((0 : Int32) < 0 ∨ cl847.slots.size ≤ ((0 : Int32)).toNatClampNeg) := (inb_of S847 ⟨by decide, by decide⟩)
  have G849 : Go p e below A0 (T844.setTop (mkF m 14 #[.val (.ref d), .val (.int (0 : Int32)), .val (.int (2 : Int32))] [(.int (fsz 0)), (.int (fp0 2))])) := fun tq kq => G846 tq (by
    refine X844.iaload hx (j := (0 : Int32)) (v := (.int (fsz 0))) (by rw [e844]; exact Ar847.1) (State.isArrayOf_alike hZ.alike Ar847.2.1) Ar847.2.2 hi848 ((H847 _ (S847 ▸ Nat.lt_of_not_le fun y => hi848 (Or.inr y))).trans (congrArg some rfl)) (g := (mkF m 13 #[.val (.ref d), .val (.int (0 : Int32)), .val (.int (2 : Int32))] [(.int (0 : Int32)), (.ref siz), (.int (fp0 2))])) rfl rfl (hb hby d21_13) _ ?_
    show Steps p.tables e below (T844.setTop (mkF m 14 #[.val (.ref d), .val (.int (0 : Int32)), .val (.int (2 : Int32))] [(.int (fsz 0)), (.int (fp0 2))])) _
    exact kq)
  by_cases hc850 : (fp0 2) < (fsz 0)
  · have G851 : Go p e below A0 (T844.setTop (mkF m 22 #[.val (.ref d), .val (.int (0 : Int32)), .val (.int (2 : Int32))] [(.int (1 : Int32))])) := fun tq kq => G849 tq (by
      refine XS.icmpNo X844.here hx rfl (hb hby d21_14) rfl (tlt hc850).2.1 ?_
      show Steps p.tables e below (T844.setTop (mkF m 17 #[.val (.ref d), .val (.int (0 : Int32)), .val (.int (2 : Int32))] [])) _
      refine XS.iconst X844.here hx rfl (hb hby d21_17) ?_
      show Steps p.tables e below (T844.setTop (mkF m 18 #[.val (.ref d), .val (.int (0 : Int32)), .val (.int (2 : Int32))] [(.int (1 : Int32))])) _
      refine XS.goto X844.here hx rfl (pc0 := 18) (pc' := 22) rfl (hb hby d21_18) (by decide) (by decide) ?_
      show Steps p.tables e below (T844.setTop (mkF m 22 #[.val (.ref d), .val (.int (0 : Int32)), .val (.int (2 : Int32))] [(.int (1 : Int32))])) _
      exact kq)
    obtain ⟨fs, hr, hrun, hended, hW, hsame⟩ := X844.leave (v := some (.int (nar .boolean (1 : Int32)))) (fun h => by rw [Bd.returns] at h; cases h)
    refine ⟨_, _, (by rw [← hA0]; exact G851 _ (retN X844 hx (t := .boolean) Bd.returns (by simp) (hb hby d21_22) hr)), hrun, hended, _, _, rfl, ?_, ⟨_, rfl⟩, hW, hsame.mono (by decide) (by decide)⟩
    exact ⟨(by rw [show own_b ((fp0 2) < (fsz 0)) = (1 : Int32) from by simp only [own_b, hc850, not_true_eq_false, not_false_eq_true, if_true, if_false, or_true, true_or, or_false, false_or, and_true, true_and, and_false, false_and, and_self, or_self]]; rfl), N0, e844⟩
  · have G852 : Go p e below A0 (T844.setTop (mkF m 22 #[.val (.ref d), .val (.int (0 : Int32)), .val (.int (2 : Int32))] [(.int (0 : Int32))])) := fun tq kq => G849 tq (by
      refine XS.icmpYes X844.here hx rfl (pc0 := 14) (pc' := 21) rfl (hb hby d21_14) rfl (flt hc850).2.1 (by decide) (by decide) ?_
      show Steps p.tables e below (T844.setTop (mkF m 21 #[.val (.ref d), .val (.int (0 : Int32)), .val (.int (2 : Int32))] [])) _
      refine XS.iconst X844.here hx rfl (hb hby d21_21) ?_
      show Steps p.tables e below (T844.setTop (mkF m 22 #[.val (.ref d), .val (.int (0 : Int32)), .val (.int (2 : Int32))] [(.int (0 : Int32))])) _
      exact kq)
    obtain ⟨fs, hr, hrun, hended, hW, hsame⟩ := X844.leave (v := some (.int (nar .boolean (0 : Int32)))) (fun h => by rw [Bd.returns] at h; cases h)
    refine ⟨_, _, (by rw [← hA0]; exact G852 _ (retN X844 hx (t := .boolean) Bd.returns (by simp) (hb hby d21_22) hr)), hrun, hended, _, _, rfl, ?_, ⟨_, rfl⟩, hW, hsame.mono (by decide) (by decide)⟩
    exact ⟨(by rw [show own_b ((fp0 2) < (fsz 0)) = (0 : Int32) from by simp only [own_b, hc850, not_true_eq_false, not_false_eq_true, if_true, if_false, or_true, true_or, or_false, false_or, and_true, true_and, and_false, false_and, and_self, or_self]]; rfl), N0, e844⟩
set_option maxRecDepth 65536 in
set_option maxHeartbeats 40000000 in
theorem rmC0_3 (l : Launch) (Z : State) (a0 : Array Value) (hw : ∀ d ∈ tables_1, d.before a0 Z = true) (ws : List Jvm.Cond) (d mem pos siz mrk m0 p0 k0 m1 p1 k1 : Addr) (rd : Int32) (fsz fm0 fp0 fk0 fm1 fp1 fk1 : Nat → Int32) (h0 : Heap) (n0 : Nat) (Z0 : n0 ≤ h0.size) (hord : Ord n0 d mem pos siz mrk m0 p0 k0 m1 p1 k1) (hdom : Dom Z h0 d mem pos siz mrk m0 p0 k0 m1 p1 k1 rd (fsz) (fm0) (fp0) (fk0) (fm1) (fp1) (fk1)) :
    MetFree l (⟨"com/example/ludarc/ludarc/engine/Domains", "contains", "(II)Z"⟩ : MethodName) (head1 (Jvm.Cond.code (⟨"com/example/ludarc/ludarc/engine/Domains", "contains", "(II)Z"⟩ : MethodName) prog_5_method_5_code 3 (some .boolean) :: ws) ({ frames := 0, cells := 0, slots := 0, locals := 0 } : Room)) (fun aa UU => aa = #[(.ref d), (.int (0 : Int32)), (.int (3 : Int32))] ∧ Z.Warmed39 UU.vm ∧ UU.heap = h0) (fun _ _ _ _ _ => True) (fun _ UU oo U' => ∃ v L, oo = .returned v ∧ Qr (.int (own_b ((fp0 3) < (fsz 0)))) h0 n0 v U'.heap L ∧ FrameEnd UU oo U' L ({ frames := 0, cells := 0, slots := 0, locals := 0 } : Room).cells ({ frames := 0, cells := 0, slots := 0, locals := 0 } : Room).slots) := by
  refine MetFree.of_bodySF (plainFor_of_name pn_6) hisR ?_
  intro p e s m args below meth c s₁ Bd hml0 hP hK
  obtain ⟨rfl, hZ, hh⟩ := hP
  have hx := Bd.exec
  have hby := Bd.bytes
  have hml : c.maxLocals = 3 := hml0
  have hown : s.vm.findClass "com/example/ludarc/ludarc/engine/Domains" = some m.cls := findClass_of_methodNamed Bd.named
  have hnm := (name_of_methodNamed Bd.named Bd.method).1
  have X0 : Stand p l e ({ frames := 0, cells := 0, slots := 0, locals := 0 } : Room) s m #[(.ref d), (.int (0 : Int32)), (.int (3 : Int32))] below meth c s₁ [] 0 0 := Stand.of_body Bd
  have e0 : s₁.heap = h0 := by rw [← hh, Bd.state]; rfl
  have N0 := Fr.nil n0
  obtain ⟨A0, hA0⟩ : ∃ A, A = s₁.setTop (entryFrame m #[(.ref d), (.int (0 : Int32)), (.int (3 : Int32))] 3) := ⟨_, rfl⟩
  have G0 : Go p e below A0 (s₁.setTop (mkF m 0 #[.val (.ref d), .val (.int (0 : Int32)), .val (.int (3 : Int32))] [])) := fun tq kq => by rw [hA0]; exact castTop (ef_rmC0_3 m d (0 : Int32) (3 : Int32)) kq
  obtain ⟨o0, o1, o2, o3, o4, o5, o6, o7, o8, o9, o10⟩ := hord
  obtain ⟨Ed, D0_, D1_, D2_, D3_, D4_, ⟨cmem, Amem⟩, ⟨cpos, Apos⟩, ⟨cmrk, Amrk⟩, ⟨csiz, Asiz⟩, ⟨cm0, Am0⟩, ⟨cp0, Ap0⟩, ⟨ck0, Ak0⟩, ⟨cm1, Am1⟩, ⟨cp1, Ap1⟩, ⟨ck1, Ak1⟩⟩ := hdom
  have G853 : Go p e below A0 (s₁.setTop (mkF m 1 #[.val (.ref d), .val (.int (0 : Int32)), .val (.int (3 : Int32))] [(.ref d)])) := fun tq kq => G0 tq (by
    refine XS.aloadN X0.here hx rfl (hb hby d21_0) rfl rfl ?_
    show Steps p.tables e below (s₁.setTop (mkF m 1 #[.val (.ref d), .val (.int (0 : Int32)), .val (.int (3 : Int32))] [(.ref d)])) _
    exact kq)
  obtain ⟨T854, X854, e854, st854⟩ := getF X0 hx hZ hown (host := "") (Or.inl (hw _ (List.mem_of_getElem? (i := 106) rfl))) Via.refl e0 D2_ (g := (mkF m 1 #[.val (.ref d), .val (.int (0 : Int32)), .val (.int (3 : Int32))] [(.ref d)])) rfl rfl (hb hby d21_1)
  have G855 : Go p e below A0 (T854.setTop (mkF m 4 #[.val (.ref d), .val (.int (0 : Int32)), .val (.int (3 : Int32))] [(.ref pos)])) := fun tq kq => G853 tq (st854 _ kq)
  have G856 : Go p e below A0 (T854.setTop (mkF m 5 #[.val (.ref d), .val (.int (0 : Int32)), .val (.int (3 : Int32))] [(.int (0 : Int32)), (.ref pos)])) := fun tq kq => G855 tq (by
    refine XS.iloadN X854.here hx rfl (hb hby d21_4) rfl ?_
    show Steps p.tables e below (T854.setTop (mkF m 5 #[.val (.ref d), .val (.int (0 : Int32)), .val (.int (3 : Int32))] [(.int (0 : Int32)), (.ref pos)])) _
    exact kq)
  obtain ⟨cl857, Ar857, q857, S857, M857, H857, Gf857⟩ := id Apos
  have hi858 : ¬ ((0 : Int32) < 0 ∨ cl857.slots.size ≤ ((0 : Int32)).toNatClampNeg) := (inb_of S857 ⟨by decide, by decide⟩)
  have G859 : Go p e below A0 (T854.setTop (mkF m 7 #[.val (.ref d), .val (.int (0 : Int32)), .val (.int (3 : Int32))] [(.int (3 : Int32)), (.ref p0)])) := fun tq kq => G856 tq (by
    refine X854.aaload hx (j := (0 : Int32)) (v := (.ref p0)) (by rw [e854]; exact Ar857.1) (State.isArrayOf_alike hZ.alike Ar857.2.1) rfl Ar857.2.2 hi858 (H857.at hi858 rfl) (g := (mkF m 5 #[.val (.ref d), .val (.int (0 : Int32)), .val (.int (3 : Int32))] [(.int (0 : Int32)), (.ref pos)])) rfl rfl (hb hby d21_5) _ ?_
    show Steps p.tables e below (T854.setTop (mkF m 6 #[.val (.ref d), .val (.int (0 : Int32)), .val (.int (3 : Int32))] [(.ref p0)])) _
    refine XS.iloadN X854.here hx rfl (hb hby d21_6) rfl ?_
    show Steps p.tables e below (T854.setTop (mkF m 7 #[.val (.ref d), .val (.int (0 : Int32)), .val (.int (3 : Int32))] [(.int (3 : Int32)), (.ref p0)])) _
    exact kq)
  obtain ⟨cl860, Ar860, q860, S860, M860, H860⟩ := id Ap0
  have hi861 : ¬ ((3 : Int32) < 0 ∨ cl860.slots.size ≤ ((3 : Int32)).toNatClampNeg) := (inb_of S860 ⟨by decide, by decide⟩)
  have G862 : Go p e below A0 (T854.setTop (mkF m 9 #[.val (.ref d), .val (.int (0 : Int32)), .val (.int (3 : Int32))] [(.ref d), (.int (fp0 3))])) := fun tq kq => G859 tq (by
    refine X854.iaload hx (j := (3 : Int32)) (v := (.int (fp0 3))) (by rw [e854]; exact Ar860.1) (State.isArrayOf_alike hZ.alike Ar860.2.1) Ar860.2.2 hi861 ((H860 _ (S860 ▸ Nat.lt_of_not_le fun y => hi861 (Or.inr y))).trans (congrArg some rfl)) (g := (mkF m 7 #[.val (.ref d), .val (.int (0 : Int32)), .val (.int (3 : Int32))] [(.int (3 : Int32)), (.ref p0)])) rfl rfl (hb hby d21_7) _ ?_
    show Steps p.tables e below (T854.setTop (mkF m 8 #[.val (.ref d), .val (.int (0 : Int32)), .val (.int (3 : Int32))] [(.int (fp0 3))])) _
    refine XS.aloadN X854.here hx rfl (hb hby d21_8) rfl rfl ?_
    show Steps p.tables e below (T854.setTop (mkF m 9 #[.val (.ref d), .val (.int (0 : Int32)), .val (.int (3 : Int32))] [(.ref d), (.int (fp0 3))])) _
    exact kq)
  obtain ⟨T863, X863, e863, st863⟩ := getF X854 hx hZ hown (host := "") (Or.inl (hw _ (List.mem_of_getElem? (i := 108) rfl))) Via.refl e854 D3_ (g := (mkF m 9 #[.val (.ref d), .val (.int (0 : Int32)), .val (.int (3 : Int32))] [(.ref d), (.int (fp0 3))])) rfl rfl (hb hby d21_9)
  have G864 : Go p e below A0 (T863.setTop (mkF m 12 #[.val (.ref d), .val (.int (0 : Int32)), .val (.int (3 : Int32))] [(.ref siz), (.int (fp0 3))])) := fun tq kq => G862 tq (st863 _ kq)
  have G865 : Go p e below A0 (T863.setTop (mkF m 13 #[.val (.ref d), .val (.int (0 : Int32)), .val (.int (3 : Int32))] [(.int (0 : Int32)), (.ref siz), (.int (fp0 3))])) := fun tq kq => G864 tq (by
    refine XS.iloadN X863.here hx rfl (hb hby d21_12) rfl ?_
    show Steps p.tables e below (T863.setTop (mkF m 13 #[.val (.ref d), .val (.int (0 : Int32)), .val (.int (3 : Int32))] [(.int (0 : Int32)), (.ref siz), (.int (fp0 3))])) _
    exact kq)
  obtain ⟨cl866, Ar866, q866, S866, M866, H866⟩ := id Asiz
  have hi867 : ¬ ((0 : Int32) < 0 ∨ cl866.slots.size ≤ ((0 : Int32)).toNatClampNeg) := (inb_of S866 ⟨by decide, by decide⟩)
  have G868 : Go p e below A0 (T863.setTop (mkF m 14 #[.val (.ref d), .val (.int (0 : Int32)), .val (.int (3 : Int32))] [(.int (fsz 0)), (.int (fp0 3))])) := fun tq kq => G865 tq (by
    refine X863.iaload hx (j := (0 : Int32)) (v := (.int (fsz 0))) (by rw [e863]; exact Ar866.1) (State.isArrayOf_alike hZ.alike Ar866.2.1) Ar866.2.2 hi867 ((H866 _ (S866 ▸ Nat.lt_of_not_le fun y => hi867 (Or.inr y))).trans (congrArg some rfl)) (g := (mkF m 13 #[.val (.ref d), .val (.int (0 : Int32)), .val (.int (3 : Int32))] [(.int (0 : Int32)), (.ref siz), (.int (fp0 3))])) rfl rfl (hb hby d21_13) _ ?_
    show Steps p.tables e below (T863.setTop (mkF m 14 #[.val (.ref d), .val (.int (0 : Int32)), .val (.int (3 : Int32))] [(.int (fsz 0)), (.int (fp0 3))])) _
    exact kq)
  by_cases hc869 : (fp0 3) < (fsz 0)
  · have G870 : Go p e below A0 (T863.setTop (mkF m 22 #[.val (.ref d), .val (.int (0 : Int32)), .val (.int (3 : Int32))] [(.int (1 : Int32))])) := fun tq kq => G868 tq (by
      refine XS.icmpNo X863.here hx rfl (hb hby d21_14) rfl (tlt hc869).2.1 ?_
      show Steps p.tables e below (T863.setTop (mkF m 17 #[.val (.ref d), .val (.int (0 : Int32)), .val (.int (3 : Int32))] [])) _
      refine XS.iconst X863.here hx rfl (hb hby d21_17) ?_
      show Steps p.tables e below (T863.setTop (mkF m 18 #[.val (.ref d), .val (.int (0 : Int32)), .val (.int (3 : Int32))] [(.int (1 : Int32))])) _
      refine XS.goto X863.here hx rfl (pc0 := 18) (pc' := 22) rfl (hb hby d21_18) (by decide) (by decide) ?_
      show Steps p.tables e below (T863.setTop (mkF m 22 #[.val (.ref d), .val (.int (0 : Int32)), .val (.int (3 : Int32))] [(.int (1 : Int32))])) _
      exact kq)
    obtain ⟨fs, hr, hrun, hended, hW, hsame⟩ := X863.leave (v := some (.int (nar .boolean (1 : Int32)))) (fun h => by rw [Bd.returns] at h; cases h)
    refine ⟨_, _, (by rw [← hA0]; exact G870 _ (retN X863 hx (t := .boolean) Bd.returns (by simp) (hb hby d21_22) hr)), hrun, hended, _, _, rfl, ?_, ⟨_, rfl⟩, hW, hsame.mono (by decide) (by decide)⟩
    exact ⟨(by rw [show own_b ((fp0 3) < (fsz 0)) = (1 : Int32) from by simp only [own_b, hc869, not_true_eq_false, not_false_eq_true, if_true, if_false, or_true, true_or, or_false, false_or, and_true, true_and, and_false, false_and, and_self, or_self]]; rfl), N0, e863⟩
  · have G871 : Go p e below A0 (T863.setTop (mkF m 22 #[.val (.ref d), .val (.int (0 : Int32)), .val (.int (3 : Int32))] [(.int (0 : Int32))])) := fun tq kq => G868 tq (by
      refine XS.icmpYes X863.here hx rfl (pc0 := 14) (pc' := 21) rfl (hb hby d21_14) rfl (flt hc869).2.1 (by decide) (by decide) ?_
      show Steps p.tables e below (T863.setTop (mkF m 21 #[.val (.ref d), .val (.int (0 : Int32)), .val (.int (3 : Int32))] [])) _
      refine XS.iconst X863.here hx rfl (hb hby d21_21) ?_
      show Steps p.tables e below (T863.setTop (mkF m 22 #[.val (.ref d), .val (.int (0 : Int32)), .val (.int (3 : Int32))] [(.int (0 : Int32))])) _
      exact kq)
    obtain ⟨fs, hr, hrun, hended, hW, hsame⟩ := X863.leave (v := some (.int (nar .boolean (0 : Int32)))) (fun h => by rw [Bd.returns] at h; cases h)
    refine ⟨_, _, (by rw [← hA0]; exact G871 _ (retN X863 hx (t := .boolean) Bd.returns (by simp) (hb hby d21_22) hr)), hrun, hended, _, _, rfl, ?_, ⟨_, rfl⟩, hW, hsame.mono (by decide) (by decide)⟩
    exact ⟨(by rw [show own_b ((fp0 3) < (fsz 0)) = (0 : Int32) from by simp only [own_b, hc869, not_true_eq_false, not_false_eq_true, if_true, if_false, or_true, true_or, or_false, false_or, and_true, true_and, and_false, false_and, and_self, or_self]]; rfl), N0, e863⟩
def QR1 (Z : State) (d mem pos siz mrk m0 p0 k0 m1 p1 k1 : Addr) (rd : Int32) (fsz fm0 fp0 fk0 fm1 fp1 fk1 : Nat → Int32) (val : Int32) (h0 : Heap) (n0 : Nat) (v : Option Value) (h : Heap) (L : List Loc) : Prop := v = none ∧ Fr n0 L ∧ Keep h0 h [m1, p1, siz] ∧ Dom Z h d mem pos siz mrk m0 p0 k0 m1 p1 k1 rd (own_up fsz 1 ((fsz 1) - (1 : Int32))) (fm0) (fp0) (fk0) (own_sm fm1 (fp1 val.toNatClampNeg) ((fsz 1) - (1 : Int32))) (own_sp fm1 fp1 (fp1 val.toNatClampNeg) ((fsz 1) - (1 : Int32))) (fk1)
set_option maxRecDepth 65536 in
set_option maxHeartbeats 40000000 in
theorem rmR1 (l : Launch) (Z : State) (a0 : Array Value) (hw : ∀ d ∈ tables_1, d.before a0 Z = true) (ws : List Jvm.Cond) (d mem pos siz mrk m0 p0 k0 m1 p1 k1 : Addr) (rd : Int32) (fsz fm0 fp0 fk0 fm1 fp1 fk1 : Nat → Int32) (val : Int32) (h0 : Heap) (n0 : Nat) (Z0 : n0 ≤ h0.size) (hord : Ord n0 d mem pos siz mrk m0 p0 k0 m1 p1 k1) (hdom : Dom Z h0 d mem pos siz mrk m0 p0 k0 m1 p1 k1 rd (fsz) (fm0) (fp0) (fk0) (fm1) (fp1) (fk1)) (hval : ¬ val < 0 ∧ val < (2 : Int32)) (hfr : ¬ (fp1 val.toNatClampNeg) < 0 ∧ (fp1 val.toNatClampNeg) < (2 : Int32)) (hto : ¬ ((fsz 1) - (1 : Int32)) < 0 ∧ ((fsz 1) - (1 : Int32)) < (2 : Int32)) (hx0 : ¬ (fm1 (fp1 val.toNatClampNeg).toNatClampNeg) < 0 ∧ (fm1 (fp1 val.toNatClampNeg).toNatClampNeg) < (2 : Int32)) (hx1 : ¬ (own_sm fm1 (fp1 val.toNatClampNeg) ((fsz 1) - (1 : Int32)) (fp1 val.toNatClampNeg).toNatClampNeg) < 0 ∧ (own_sm fm1 (fp1 val.toNatClampNeg) ((fsz 1) - (1 : Int32)) (fp1 val.toNatClampNeg).toNatClampNeg) < (2 : Int32)) :
    MetFree l (⟨"com/example/ludarc/ludarc/engine/Domains", "remove", "(II)V"⟩ : MethodName) (head1 (Jvm.Cond.code (⟨"com/example/ludarc/ludarc/engine/Domains", "remove", "(II)V"⟩ : MethodName) prog_5_method_7_code 4 none :: ws) ({ frames := 1, cells := 0, slots := 0, locals := 17 } : Room)) (fun aa UU => aa = #[(.ref d), (.int (1 : Int32)), (.int val)] ∧ Z.Warmed39 UU.vm ∧ UU.heap = h0) (fun _ _ _ _ _ => True) (fun _ UU oo U' => ∃ v L, oo = .returned v ∧ QR1 Z d mem pos siz mrk m0 p0 k0 m1 p1 k1 rd fsz fm0 fp0 fk0 fm1 fp1 fk1 val h0 n0 v U'.heap L ∧ FrameEnd UU oo U' L ({ frames := 1, cells := 0, slots := 0, locals := 17 } : Room).cells ({ frames := 1, cells := 0, slots := 0, locals := 17 } : Room).slots) := by
  refine MetFree.of_bodySF (plainFor_of_name pn_6) hisR ?_
  intro p e s m args below meth c s₁ Bd hml0 hP hK
  obtain ⟨rfl, hZ, hh⟩ := hP
  have hx := Bd.exec
  have hby := Bd.bytes
  have hml : c.maxLocals = 4 := hml0
  have hown : s.vm.findClass "com/example/ludarc/ludarc/engine/Domains" = some m.cls := findClass_of_methodNamed Bd.named
  have hnm := (name_of_methodNamed Bd.named Bd.method).1
  have X0 : Stand p l e ({ frames := 1, cells := 0, slots := 0, locals := 17 } : Room) s m #[(.ref d), (.int (1 : Int32)), (.int val)] below meth c s₁ [] 0 0 := Stand.of_body Bd
  have e0 : s₁.heap = h0 := by rw [← hh, Bd.state]; rfl
  have N0 := Fr.nil n0
  obtain ⟨A0, hA0⟩ : ∃ A, A = s₁.setTop (entryFrame m #[(.ref d), (.int (1 : Int32)), (.int val)] 4) := ⟨_, rfl⟩
  have G0 : Go p e below A0 (s₁.setTop (mkF m 0 #[.val (.ref d), .val (.int (1 : Int32)), .val (.int val), .unset] [])) := fun tq kq => by rw [hA0]; exact castTop (ef_rmR1 m d (1 : Int32) val) kq
  have hord0 := hord
  obtain ⟨o0, o1, o2, o3, o4, o5, o6, o7, o8, o9, o10⟩ := hord
  obtain ⟨Ed, D0_, D1_, D2_, D3_, D4_, ⟨cmem, Amem⟩, ⟨cpos, Apos⟩, ⟨cmrk, Amrk⟩, ⟨csiz, Asiz⟩, ⟨cm0, Am0⟩, ⟨cp0, Ap0⟩, ⟨ck0, Ak0⟩, ⟨cm1, Am1⟩, ⟨cp1, Ap1⟩, ⟨ck1, Ak1⟩⟩ := hdom
  have G872 : Go p e below A0 (s₁.setTop (mkF m 1 #[.val (.ref d), .val (.int (1 : Int32)), .val (.int val), .unset] [(.ref d)])) := fun tq kq => G0 tq (by
    refine XS.aloadN X0.here hx rfl (hb hby d19_0) rfl rfl ?_
    show Steps p.tables e below (s₁.setTop (mkF m 1 #[.val (.ref d), .val (.int (1 : Int32)), .val (.int val), .unset] [(.ref d)])) _
    exact kq)
  obtain ⟨T873, X873, e873, st873⟩ := getF X0 hx hZ hown (host := "") (Or.inl (hw _ (List.mem_of_getElem? (i := 108) rfl))) Via.refl e0 D3_ (g := (mkF m 1 #[.val (.ref d), .val (.int (1 : Int32)), .val (.int val), .unset] [(.ref d)])) rfl rfl (hb hby d19_1)
  have G874 : Go p e below A0 (T873.setTop (mkF m 4 #[.val (.ref d), .val (.int (1 : Int32)), .val (.int val), .unset] [(.ref siz)])) := fun tq kq => G872 tq (st873 _ kq)
  have G875 : Go p e below A0 (T873.setTop (mkF m 5 #[.val (.ref d), .val (.int (1 : Int32)), .val (.int val), .unset] [(.int (1 : Int32)), (.ref siz)])) := fun tq kq => G874 tq (by
    refine XS.iloadN X873.here hx rfl (hb hby d19_4) rfl ?_
    show Steps p.tables e below (T873.setTop (mkF m 5 #[.val (.ref d), .val (.int (1 : Int32)), .val (.int val), .unset] [(.int (1 : Int32)), (.ref siz)])) _
    exact kq)
  obtain ⟨cl876, Ar876, q876, S876, M876, H876⟩ := id Asiz
  have hi877 : ¬ ((1 : Int32) < 0 ∨ cl876.slots.size ≤ ((1 : Int32)).toNatClampNeg) := (inb_of S876 ⟨by decide, by decide⟩)
  have G878 : Go p e below A0 (T873.setTop (mkF m 12 #[.val (.ref d), .val (.int (1 : Int32)), .val (.int val), .val (.int ((fsz 1) - (1 : Int32)))] [(.ref d), (.int (1 : Int32)), (.ref d)])) := fun tq kq => G875 tq (by
    refine X873.iaload hx (j := (1 : Int32)) (v := (.int (fsz 1))) (by rw [e873]; exact Ar876.1) (State.isArrayOf_alike hZ.alike Ar876.2.1) Ar876.2.2 hi877 ((H876 _ (S876 ▸ Nat.lt_of_not_le fun y => hi877 (Or.inr y))).trans (congrArg some rfl)) (g := (mkF m 5 #[.val (.ref d), .val (.int (1 : Int32)), .val (.int val), .unset] [(.int (1 : Int32)), (.ref siz)])) rfl rfl (hb hby d19_5) _ ?_
    show Steps p.tables e below (T873.setTop (mkF m 6 #[.val (.ref d), .val (.int (1 : Int32)), .val (.int val), .unset] [(.int (fsz 1))])) _
    refine XS.iconst X873.here hx rfl (hb hby d19_6) ?_
    show Steps p.tables e below (T873.setTop (mkF m 7 #[.val (.ref d), .val (.int (1 : Int32)), .val (.int val), .unset] [(.int (1 : Int32)), (.int (fsz 1))])) _
    refine XS.isub X873.here hx rfl (hb hby d19_7) rfl ?_
    show Steps p.tables e below (T873.setTop (mkF m 8 #[.val (.ref d), .val (.int (1 : Int32)), .val (.int val), .unset] [(.int ((fsz 1) - (1 : Int32)))])) _
    refine XS.istoreN X873.here hx rfl (hb hby d19_8) rfl (l' := #[.val (.ref d), .val (.int (1 : Int32)), .val (.int val), .val (.int ((fsz 1) - (1 : Int32)))]) rfl ?_
    show Steps p.tables e below (T873.setTop (mkF m 9 #[.val (.ref d), .val (.int (1 : Int32)), .val (.int val), .val (.int ((fsz 1) - (1 : Int32)))] [])) _
    refine XS.aloadN X873.here hx rfl (hb hby d19_9) rfl rfl ?_
    show Steps p.tables e below (T873.setTop (mkF m 10 #[.val (.ref d), .val (.int (1 : Int32)), .val (.int val), .val (.int ((fsz 1) - (1 : Int32)))] [(.ref d)])) _
    refine XS.iloadN X873.here hx rfl (hb hby d19_10) rfl ?_
    show Steps p.tables e below (T873.setTop (mkF m 11 #[.val (.ref d), .val (.int (1 : Int32)), .val (.int val), .val (.int ((fsz 1) - (1 : Int32)))] [(.int (1 : Int32)), (.ref d)])) _
    refine XS.aloadN X873.here hx rfl (hb hby d19_11) rfl rfl ?_
    show Steps p.tables e below (T873.setTop (mkF m 12 #[.val (.ref d), .val (.int (1 : Int32)), .val (.int val), .val (.int ((fsz 1) - (1 : Int32)))] [(.ref d), (.int (1 : Int32)), (.ref d)])) _
    exact kq)
  obtain ⟨T879, X879, e879, st879⟩ := getF X873 hx hZ hown (host := "") (Or.inl (hw _ (List.mem_of_getElem? (i := 106) rfl))) Via.refl e873 D2_ (g := (mkF m 12 #[.val (.ref d), .val (.int (1 : Int32)), .val (.int val), .val (.int ((fsz 1) - (1 : Int32)))] [(.ref d), (.int (1 : Int32)), (.ref d)])) rfl rfl (hb hby d19_12)
  have G880 : Go p e below A0 (T879.setTop (mkF m 15 #[.val (.ref d), .val (.int (1 : Int32)), .val (.int val), .val (.int ((fsz 1) - (1 : Int32)))] [(.ref pos), (.int (1 : Int32)), (.ref d)])) := fun tq kq => G878 tq (st879 _ kq)
  have G881 : Go p e below A0 (T879.setTop (mkF m 16 #[.val (.ref d), .val (.int (1 : Int32)), .val (.int val), .val (.int ((fsz 1) - (1 : Int32)))] [(.int (1 : Int32)), (.ref pos), (.int (1 : Int32)), (.ref d)])) := fun tq kq => G880 tq (by
    refine XS.iloadN X879.here hx rfl (hb hby d19_15) rfl ?_
    show Steps p.tables e below (T879.setTop (mkF m 16 #[.val (.ref d), .val (.int (1 : Int32)), .val (.int val), .val (.int ((fsz 1) - (1 : Int32)))] [(.int (1 : Int32)), (.ref pos), (.int (1 : Int32)), (.ref d)])) _
    exact kq)
  obtain ⟨cl882, Ar882, q882, S882, M882, H882, Gf882⟩ := id Apos
  have hi883 : ¬ ((1 : Int32) < 0 ∨ cl882.slots.size ≤ ((1 : Int32)).toNatClampNeg) := (inb_of S882 ⟨by decide, by decide⟩)
  have G884 : Go p e below A0 (T879.setTop (mkF m 18 #[.val (.ref d), .val (.int (1 : Int32)), .val (.int val), .val (.int ((fsz 1) - (1 : Int32)))] [(.int val), (.ref p1), (.int (1 : Int32)), (.ref d)])) := fun tq kq => G881 tq (by
    refine X879.aaload hx (j := (1 : Int32)) (v := (.ref p1)) (by rw [e879]; exact Ar882.1) (State.isArrayOf_alike hZ.alike Ar882.2.1) rfl Ar882.2.2 hi883 (H882.at hi883 rfl) (g := (mkF m 16 #[.val (.ref d), .val (.int (1 : Int32)), .val (.int val), .val (.int ((fsz 1) - (1 : Int32)))] [(.int (1 : Int32)), (.ref pos), (.int (1 : Int32)), (.ref d)])) rfl rfl (hb hby d19_16) _ ?_
    show Steps p.tables e below (T879.setTop (mkF m 17 #[.val (.ref d), .val (.int (1 : Int32)), .val (.int val), .val (.int ((fsz 1) - (1 : Int32)))] [(.ref p1), (.int (1 : Int32)), (.ref d)])) _
    refine XS.iloadN X879.here hx rfl (hb hby d19_17) rfl ?_
    show Steps p.tables e below (T879.setTop (mkF m 18 #[.val (.ref d), .val (.int (1 : Int32)), .val (.int val), .val (.int ((fsz 1) - (1 : Int32)))] [(.int val), (.ref p1), (.int (1 : Int32)), (.ref d)])) _
    exact kq)
  obtain ⟨cl885, Ar885, q885, S885, M885, H885⟩ := id Ap1
  have hi886 : ¬ (val < 0 ∨ cl885.slots.size ≤ (val).toNatClampNeg) := (inb_of S885 hval)
  have G887 : Go p e below A0 (T879.setTop (mkF m 20 #[.val (.ref d), .val (.int (1 : Int32)), .val (.int val), .val (.int ((fsz 1) - (1 : Int32)))] [(.int ((fsz 1) - (1 : Int32))), (.int (fp1 (val).toNatClampNeg)), (.int (1 : Int32)), (.ref d)])) := fun tq kq => G884 tq (by
    refine X879.iaload hx (j := val) (v := (.int (fp1 (val).toNatClampNeg))) (by rw [e879]; exact Ar885.1) (State.isArrayOf_alike hZ.alike Ar885.2.1) Ar885.2.2 hi886 ((H885 _ (S885 ▸ Nat.lt_of_not_le fun y => hi886 (Or.inr y))).trans (congrArg some rfl)) (g := (mkF m 18 #[.val (.ref d), .val (.int (1 : Int32)), .val (.int val), .val (.int ((fsz 1) - (1 : Int32)))] [(.int val), (.ref p1), (.int (1 : Int32)), (.ref d)])) rfl rfl (hb hby d19_18) _ ?_
    show Steps p.tables e below (T879.setTop (mkF m 19 #[.val (.ref d), .val (.int (1 : Int32)), .val (.int val), .val (.int ((fsz 1) - (1 : Int32)))] [(.int (fp1 (val).toNatClampNeg)), (.int (1 : Int32)), (.ref d)])) _
    refine XS.iloadN X879.here hx rfl (hb hby d19_19) rfl ?_
    show Steps p.tables e below (T879.setTop (mkF m 20 #[.val (.ref d), .val (.int (1 : Int32)), .val (.int val), .val (.int ((fsz 1) - (1 : Int32)))] [(.int ((fsz 1) - (1 : Int32))), (.int (fp1 (val).toNatClampNeg)), (.int (1 : Int32)), (.ref d)])) _
    exact kq)
  obtain ⟨cq888, q888, q888'⟩ := Ed.cell
  obtain ⟨_, _, ⟨T888, L888, k888, n888⟩, -, X888, ⟨Lc888, hQ888, l888, y888, z888⟩, st888⟩ := X879.privateBack hx (y := (⟨"com/example/ludarc/ludarc/engine/Domains", "swap", "(III)V"⟩ : MethodName)) hown (mvT hZ (hw _ (List.mem_of_getElem? (i := 151) rfl))) (mvT hZ (hw _ (List.mem_of_getElem? (i := 152) rfl))) (own_sel (mvT hZ (hw _ (List.mem_of_getElem? (i := 85) rfl))) (mvP hZ (hw _ (List.mem_of_getElem? (i := 153) rfl))) (mvT hZ (hw _ (List.mem_of_getElem? (i := 152) rfl))) (by decide)) (Cond.privateMethod_at (mvP hZ (hw _ (List.mem_of_getElem? (i := 153) rfl)) (args := #[]))) (mvT hZ (hw _ (List.mem_of_getElem? (i := 154) rfl))) (by decide) (backOf (W := 0) (rmS1 l Z a0 hw [] d mem pos siz mrk m0 p0 k0 m1 p1 k1 rd fsz fm0 fp0 fk0 fm1 fp1 fk1 (fp1 (val).toNatClampNeg) ((fsz 1) - (1 : Int32)) h0 n0 Z0 hord0 ⟨Ed, D0_, D1_, D2_, D3_, D4_, ⟨_, Amem⟩, ⟨_, Apos⟩, ⟨_, Amrk⟩, ⟨_, Asiz⟩, ⟨_, Am0⟩, ⟨_, Ap0⟩, ⟨_, Ak0⟩, ⟨_, Am1⟩, ⟨_, Ap1⟩, ⟨_, Ak1⟩⟩ hfr hto hx0 hx1) hZ (hw _ (List.mem_of_getElem? (i := 154) rfl)) (hw _ (List.mem_of_getElem? (i := 86) rfl)) (by decide) (by decide)) (g := (mkF m 20 #[.val (.ref d), .val (.int (1 : Int32)), .val (.int val), .val (.int ((fsz 1) - (1 : Int32)))] [(.int ((fsz 1) - (1 : Int32))), (.int (fp1 (val).toNatClampNeg)), (.int (1 : Int32)), (.ref d)])) rfl (by rw [hml]; rfl) (Steps.refl _) (a := d) (by rw [e879]; exact q888) q888' (argsL := [(.int (1 : Int32)), (.int (fp1 (val).toNatClampNeg)), (.int ((fsz 1) - (1 : Int32)))]) (rest := []) (lenOf pd_8 rfl) rfl (by show 2 * 0 + _ ≤ _; exact Nat.le_of_eq rfl) (hb hby d19_20) (fun _ _ => ⟨rfl, e879, (by decide : 0 + 0 ≤ _), (by decide : 0 + 0 ≤ _)⟩)
  dsimp only [Pt.U, Pt.locs, Pt.cells, Pt.slots] at X888 l888 y888 z888 st888 hQ888
  obtain rfl : k888 = 0 := y888
  obtain rfl : n888 = 0 := z888
  obtain ⟨rfl, N888q, K888, dom888⟩ := hQ888
  have N888 : Fr n0 L888 := by rw [l888]; exact Fr.app N0 N888q
  obtain ⟨Ed888, D0_888, D1_888, D2_888, D3_888, D4_888, ⟨cmem888, Amem888⟩, ⟨cpos888, Apos888⟩, ⟨cmrk888, Amrk888⟩, ⟨csiz888, Asiz888⟩, ⟨cm0888, Am0888⟩, ⟨cp0888, Ap0888⟩, ⟨ck0888, Ak0888⟩, ⟨cm1888, Am1888⟩, ⟨cp1888, Ap1888⟩, ⟨ck1888, Ak1888⟩⟩ := dom888
  have G889 : Go p e below A0 (T888.setTop (mkF m 23 #[.val (.ref d), .val (.int (1 : Int32)), .val (.int val), .val (.int ((fsz 1) - (1 : Int32)))] [])) := fun tq kq => G887 tq (st888.trans kq)
  have G890 : Go p e below A0 (T888.setTop (mkF m 24 #[.val (.ref d), .val (.int (1 : Int32)), .val (.int val), .val (.int ((fsz 1) - (1 : Int32)))] [(.ref d)])) := fun tq kq => G889 tq (by
    refine XS.aloadN X888.here hx rfl (hb hby d19_23) rfl rfl ?_
    show Steps p.tables e below (T888.setTop (mkF m 24 #[.val (.ref d), .val (.int (1 : Int32)), .val (.int val), .val (.int ((fsz 1) - (1 : Int32)))] [(.ref d)])) _
    exact kq)
  obtain ⟨T891, X891, e891, st891⟩ := getF X888 hx hZ hown (host := "") (Or.inl (hw _ (List.mem_of_getElem? (i := 108) rfl))) Via.refl rfl D3_888 (g := (mkF m 24 #[.val (.ref d), .val (.int (1 : Int32)), .val (.int val), .val (.int ((fsz 1) - (1 : Int32)))] [(.ref d)])) rfl rfl (hb hby d19_24)
  have G892 : Go p e below A0 (T891.setTop (mkF m 27 #[.val (.ref d), .val (.int (1 : Int32)), .val (.int val), .val (.int ((fsz 1) - (1 : Int32)))] [(.ref siz)])) := fun tq kq => G890 tq (st891 _ kq)
  have G893 : Go p e below A0 (T891.setTop (mkF m 29 #[.val (.ref d), .val (.int (1 : Int32)), .val (.int val), .val (.int ((fsz 1) - (1 : Int32)))] [(.int ((fsz 1) - (1 : Int32))), (.int (1 : Int32)), (.ref siz)])) := fun tq kq => G892 tq (by
    refine XS.iloadN X891.here hx rfl (hb hby d19_27) rfl ?_
    show Steps p.tables e below (T891.setTop (mkF m 28 #[.val (.ref d), .val (.int (1 : Int32)), .val (.int val), .val (.int ((fsz 1) - (1 : Int32)))] [(.int (1 : Int32)), (.ref siz)])) _
    refine XS.iloadN X891.here hx rfl (hb hby d19_28) rfl ?_
    show Steps p.tables e below (T891.setTop (mkF m 29 #[.val (.ref d), .val (.int (1 : Int32)), .val (.int val), .val (.int ((fsz 1) - (1 : Int32)))] [(.int ((fsz 1) - (1 : Int32))), (.int (1 : Int32)), (.ref siz)])) _
    exact kq)
  obtain ⟨cl894, Ar894, q894, S894, M894, H894⟩ := id Asiz888
  have hi895 : ¬ ((1 : Int32) < 0 ∨ cl894.slots.size ≤ ((1 : Int32)).toNatClampNeg) := (inb_of S894 ⟨by decide, by decide⟩)
  obtain ⟨T896, h896, X896, e896, W896, st896⟩ := stI X891 hx hZ e891 Ar894 (j := (1 : Int32)) hi895 (g := (mkF m 29 #[.val (.ref d), .val (.int (1 : Int32)), .val (.int val), .val (.int ((fsz 1) - (1 : Int32)))] [(.int ((fsz 1) - (1 : Int32))), (.int (1 : Int32)), (.ref siz)])) rfl rfl (hb hby d19_29)
  have N896 := Fr.snoc X896 N888 (show @LE.le Nat _ n0 siz by omega)
  have V896 : Af Z h896 siz csiz888 .int (2 : Int32) (fun i => .int ((own_up fsz 1 ((fsz 1) - (1 : Int32))) i)) := (Af.set Ar894 q894 S894 M894 H894 W896 hi895).fn (fun j _ => own_upf _ _ _ _ rfl j)
  have G897 : Go p e below A0 (T896.setTop (mkF m 30 #[.val (.ref d), .val (.int (1 : Int32)), .val (.int val), .val (.int ((fsz 1) - (1 : Int32)))] [])) := fun tq kq => G893 tq (st896 _ kq)
  have f898 := (D0_888.other W896 (Or.inl (show @Ne Nat d siz by omega)))
  have f899 := (D1_888.other W896 (Or.inl (show @Ne Nat d siz by omega)))
  have f900 := (D2_888.other W896 (Or.inl (show @Ne Nat d siz by omega)))
  have f901 := (D3_888.other W896 (Or.inl (show @Ne Nat d siz by omega)))
  have f902 := (D4_888.other W896 (Or.inl (show @Ne Nat d siz by omega)))
  have f903 := (Ed888.wr W896)
  have f904 := (Amem888.other W896 (show @Ne Nat mem siz by omega))
  have f905 := (Apos888.other W896 (show @Ne Nat pos siz by omega))
  have f906 := (Amrk888.other W896 (Ne.symm (show @Ne Nat siz mrk by omega)))
  have f907 := (Am0888.other W896 (Ne.symm (show @Ne Nat siz m0 by omega)))
  have f908 := (Ap0888.other W896 (Ne.symm (show @Ne Nat siz p0 by omega)))
  have f909 := (Ak0888.other W896 (Ne.symm (show @Ne Nat siz k0 by omega)))
  have f910 := (Am1888.other W896 (Ne.symm (show @Ne Nat siz m1 by omega)))
  have f911 := (Ap1888.other W896 (Ne.symm (show @Ne Nat siz p1 by omega)))
  have f912 := (Ak1888.other W896 (Ne.symm (show @Ne Nat siz k1 by omega)))
  obtain ⟨fs, hr, hrun, hended, hW, hsame⟩ := X896.leave (v := none) (fun _ => rfl)
  refine ⟨_, _, (by rw [← hA0]; exact G897 _ (X896.returnOut hx Bd.returns (hb hby d19_30) hr)), hrun, hended, _, _, rfl, ?_, ⟨_, rfl⟩, hW, hsame.mono (by decide) (by decide)⟩
  show QR1 Z d mem pos siz mrk m0 p0 k0 m1 p1 k1 rd fsz fm0 fp0 fk0 fm1 fp1 fk1 val h0 n0 _ T896.heap _
  rw [e896]
  exact ⟨rfl, N896, (((Keep.refl h0 [m1, p1, siz]).trans K888 (allS (P := fun x => x ∈ [m1, p1, siz] ∨ h0.size ≤ x) (Or.inl (List.mem_of_getElem? (i := 0) rfl)) (allS (P := fun x => x ∈ [m1, p1, siz] ∨ h0.size ≤ x) (Or.inl (List.mem_of_getElem? (i := 1) rfl)) all0))).wr W896 (Or.inl (List.mem_of_getElem? (i := 2) rfl))), ⟨f903, f898, f899, f900, f901, f902, ⟨_, f904⟩, ⟨_, f905⟩, ⟨_, f906⟩, ⟨_, V896⟩, ⟨_, f907⟩, ⟨_, f908⟩, ⟨_, f909⟩, ⟨_, f910⟩, ⟨_, f911⟩, ⟨_, f912⟩⟩⟩
set_option maxRecDepth 65536 in
set_option maxHeartbeats 40000000 in
theorem rmC1_0 (l : Launch) (Z : State) (a0 : Array Value) (hw : ∀ d ∈ tables_1, d.before a0 Z = true) (ws : List Jvm.Cond) (d mem pos siz mrk m0 p0 k0 m1 p1 k1 : Addr) (rd : Int32) (fsz fm0 fp0 fk0 fm1 fp1 fk1 : Nat → Int32) (h0 : Heap) (n0 : Nat) (Z0 : n0 ≤ h0.size) (hord : Ord n0 d mem pos siz mrk m0 p0 k0 m1 p1 k1) (hdom : Dom Z h0 d mem pos siz mrk m0 p0 k0 m1 p1 k1 rd (fsz) (fm0) (fp0) (fk0) (fm1) (fp1) (fk1)) :
    MetFree l (⟨"com/example/ludarc/ludarc/engine/Domains", "contains", "(II)Z"⟩ : MethodName) (head1 (Jvm.Cond.code (⟨"com/example/ludarc/ludarc/engine/Domains", "contains", "(II)Z"⟩ : MethodName) prog_5_method_5_code 3 (some .boolean) :: ws) ({ frames := 0, cells := 0, slots := 0, locals := 0 } : Room)) (fun aa UU => aa = #[(.ref d), (.int (1 : Int32)), (.int (0 : Int32))] ∧ Z.Warmed39 UU.vm ∧ UU.heap = h0) (fun _ _ _ _ _ => True) (fun _ UU oo U' => ∃ v L, oo = .returned v ∧ Qr (.int (own_b ((fp1 0) < (fsz 1)))) h0 n0 v U'.heap L ∧ FrameEnd UU oo U' L ({ frames := 0, cells := 0, slots := 0, locals := 0 } : Room).cells ({ frames := 0, cells := 0, slots := 0, locals := 0 } : Room).slots) := by
  refine MetFree.of_bodySF (plainFor_of_name pn_6) hisR ?_
  intro p e s m args below meth c s₁ Bd hml0 hP hK
  obtain ⟨rfl, hZ, hh⟩ := hP
  have hx := Bd.exec
  have hby := Bd.bytes
  have hml : c.maxLocals = 3 := hml0
  have hown : s.vm.findClass "com/example/ludarc/ludarc/engine/Domains" = some m.cls := findClass_of_methodNamed Bd.named
  have hnm := (name_of_methodNamed Bd.named Bd.method).1
  have X0 : Stand p l e ({ frames := 0, cells := 0, slots := 0, locals := 0 } : Room) s m #[(.ref d), (.int (1 : Int32)), (.int (0 : Int32))] below meth c s₁ [] 0 0 := Stand.of_body Bd
  have e0 : s₁.heap = h0 := by rw [← hh, Bd.state]; rfl
  have N0 := Fr.nil n0
  obtain ⟨A0, hA0⟩ : ∃ A, A = s₁.setTop (entryFrame m #[(.ref d), (.int (1 : Int32)), (.int (0 : Int32))] 3) := ⟨_, rfl⟩
  have G0 : Go p e below A0 (s₁.setTop (mkF m 0 #[.val (.ref d), .val (.int (1 : Int32)), .val (.int (0 : Int32))] [])) := fun tq kq => by rw [hA0]; exact castTop (ef_rmC1_0 m d (1 : Int32) (0 : Int32)) kq
  obtain ⟨o0, o1, o2, o3, o4, o5, o6, o7, o8, o9, o10⟩ := hord
  obtain ⟨Ed, D0_, D1_, D2_, D3_, D4_, ⟨cmem, Amem⟩, ⟨cpos, Apos⟩, ⟨cmrk, Amrk⟩, ⟨csiz, Asiz⟩, ⟨cm0, Am0⟩, ⟨cp0, Ap0⟩, ⟨ck0, Ak0⟩, ⟨cm1, Am1⟩, ⟨cp1, Ap1⟩, ⟨ck1, Ak1⟩⟩ := hdom
  have G913 : Go p e below A0 (s₁.setTop (mkF m 1 #[.val (.ref d), .val (.int (1 : Int32)), .val (.int (0 : Int32))] [(.ref d)])) := fun tq kq => G0 tq (by
    refine XS.aloadN X0.here hx rfl (hb hby d21_0) rfl rfl ?_
    show Steps p.tables e below (s₁.setTop (mkF m 1 #[.val (.ref d), .val (.int (1 : Int32)), .val (.int (0 : Int32))] [(.ref d)])) _
    exact kq)
  obtain ⟨T914, X914, e914, st914⟩ := getF X0 hx hZ hown (host := "") (Or.inl (hw _ (List.mem_of_getElem? (i := 106) rfl))) Via.refl e0 D2_ (g := (mkF m 1 #[.val (.ref d), .val (.int (1 : Int32)), .val (.int (0 : Int32))] [(.ref d)])) rfl rfl (hb hby d21_1)
  have G915 : Go p e below A0 (T914.setTop (mkF m 4 #[.val (.ref d), .val (.int (1 : Int32)), .val (.int (0 : Int32))] [(.ref pos)])) := fun tq kq => G913 tq (st914 _ kq)
  have G916 : Go p e below A0 (T914.setTop (mkF m 5 #[.val (.ref d), .val (.int (1 : Int32)), .val (.int (0 : Int32))] [(.int (1 : Int32)), (.ref pos)])) := fun tq kq => G915 tq (by
    refine XS.iloadN X914.here hx rfl (hb hby d21_4) rfl ?_
    show Steps p.tables e below (T914.setTop (mkF m 5 #[.val (.ref d), .val (.int (1 : Int32)), .val (.int (0 : Int32))] [(.int (1 : Int32)), (.ref pos)])) _
    exact kq)
  obtain ⟨cl917, Ar917, q917, S917, M917, H917, Gf917⟩ := id Apos
  have hi918 : ¬ ((1 : Int32) < 0 ∨ cl917.slots.size ≤ ((1 : Int32)).toNatClampNeg) := (inb_of S917 ⟨by decide, by decide⟩)
  have G919 : Go p e below A0 (T914.setTop (mkF m 7 #[.val (.ref d), .val (.int (1 : Int32)), .val (.int (0 : Int32))] [(.int (0 : Int32)), (.ref p1)])) := fun tq kq => G916 tq (by
    refine X914.aaload hx (j := (1 : Int32)) (v := (.ref p1)) (by rw [e914]; exact Ar917.1) (State.isArrayOf_alike hZ.alike Ar917.2.1) rfl Ar917.2.2 hi918 (H917.at hi918 rfl) (g := (mkF m 5 #[.val (.ref d), .val (.int (1 : Int32)), .val (.int (0 : Int32))] [(.int (1 : Int32)), (.ref pos)])) rfl rfl (hb hby d21_5) _ ?_
    show Steps p.tables e below (T914.setTop (mkF m 6 #[.val (.ref d), .val (.int (1 : Int32)), .val (.int (0 : Int32))] [(.ref p1)])) _
    refine XS.iloadN X914.here hx rfl (hb hby d21_6) rfl ?_
    show Steps p.tables e below (T914.setTop (mkF m 7 #[.val (.ref d), .val (.int (1 : Int32)), .val (.int (0 : Int32))] [(.int (0 : Int32)), (.ref p1)])) _
    exact kq)
  obtain ⟨cl920, Ar920, q920, S920, M920, H920⟩ := id Ap1
  have hi921 : ¬ ((0 : Int32) < 0 ∨ cl920.slots.size ≤ ((0 : Int32)).toNatClampNeg) := (inb_of S920 ⟨by decide, by decide⟩)
  have G922 : Go p e below A0 (T914.setTop (mkF m 9 #[.val (.ref d), .val (.int (1 : Int32)), .val (.int (0 : Int32))] [(.ref d), (.int (fp1 0))])) := fun tq kq => G919 tq (by
    refine X914.iaload hx (j := (0 : Int32)) (v := (.int (fp1 0))) (by rw [e914]; exact Ar920.1) (State.isArrayOf_alike hZ.alike Ar920.2.1) Ar920.2.2 hi921 ((H920 _ (S920 ▸ Nat.lt_of_not_le fun y => hi921 (Or.inr y))).trans (congrArg some rfl)) (g := (mkF m 7 #[.val (.ref d), .val (.int (1 : Int32)), .val (.int (0 : Int32))] [(.int (0 : Int32)), (.ref p1)])) rfl rfl (hb hby d21_7) _ ?_
    show Steps p.tables e below (T914.setTop (mkF m 8 #[.val (.ref d), .val (.int (1 : Int32)), .val (.int (0 : Int32))] [(.int (fp1 0))])) _
    refine XS.aloadN X914.here hx rfl (hb hby d21_8) rfl rfl ?_
    show Steps p.tables e below (T914.setTop (mkF m 9 #[.val (.ref d), .val (.int (1 : Int32)), .val (.int (0 : Int32))] [(.ref d), (.int (fp1 0))])) _
    exact kq)
  obtain ⟨T923, X923, e923, st923⟩ := getF X914 hx hZ hown (host := "") (Or.inl (hw _ (List.mem_of_getElem? (i := 108) rfl))) Via.refl e914 D3_ (g := (mkF m 9 #[.val (.ref d), .val (.int (1 : Int32)), .val (.int (0 : Int32))] [(.ref d), (.int (fp1 0))])) rfl rfl (hb hby d21_9)
  have G924 : Go p e below A0 (T923.setTop (mkF m 12 #[.val (.ref d), .val (.int (1 : Int32)), .val (.int (0 : Int32))] [(.ref siz), (.int (fp1 0))])) := fun tq kq => G922 tq (st923 _ kq)
  have G925 : Go p e below A0 (T923.setTop (mkF m 13 #[.val (.ref d), .val (.int (1 : Int32)), .val (.int (0 : Int32))] [(.int (1 : Int32)), (.ref siz), (.int (fp1 0))])) := fun tq kq => G924 tq (by
    refine XS.iloadN X923.here hx rfl (hb hby d21_12) rfl ?_
    show Steps p.tables e below (T923.setTop (mkF m 13 #[.val (.ref d), .val (.int (1 : Int32)), .val (.int (0 : Int32))] [(.int (1 : Int32)), (.ref siz), (.int (fp1 0))])) _
    exact kq)
  obtain ⟨cl926, Ar926, q926, S926, M926, H926⟩ := id Asiz
  have hi927 : ¬ ((1 : Int32) < 0 ∨ cl926.slots.size ≤ ((1 : Int32)).toNatClampNeg) := (inb_of S926 ⟨by decide, by decide⟩)
  have G928 : Go p e below A0 (T923.setTop (mkF m 14 #[.val (.ref d), .val (.int (1 : Int32)), .val (.int (0 : Int32))] [(.int (fsz 1)), (.int (fp1 0))])) := fun tq kq => G925 tq (by
    refine X923.iaload hx (j := (1 : Int32)) (v := (.int (fsz 1))) (by rw [e923]; exact Ar926.1) (State.isArrayOf_alike hZ.alike Ar926.2.1) Ar926.2.2 hi927 ((H926 _ (S926 ▸ Nat.lt_of_not_le fun y => hi927 (Or.inr y))).trans (congrArg some rfl)) (g := (mkF m 13 #[.val (.ref d), .val (.int (1 : Int32)), .val (.int (0 : Int32))] [(.int (1 : Int32)), (.ref siz), (.int (fp1 0))])) rfl rfl (hb hby d21_13) _ ?_
    show Steps p.tables e below (T923.setTop (mkF m 14 #[.val (.ref d), .val (.int (1 : Int32)), .val (.int (0 : Int32))] [(.int (fsz 1)), (.int (fp1 0))])) _
    exact kq)
  by_cases hc929 : (fp1 0) < (fsz 1)
  · have G930 : Go p e below A0 (T923.setTop (mkF m 22 #[.val (.ref d), .val (.int (1 : Int32)), .val (.int (0 : Int32))] [(.int (1 : Int32))])) := fun tq kq => G928 tq (by
      refine XS.icmpNo X923.here hx rfl (hb hby d21_14) rfl (tlt hc929).2.1 ?_
      show Steps p.tables e below (T923.setTop (mkF m 17 #[.val (.ref d), .val (.int (1 : Int32)), .val (.int (0 : Int32))] [])) _
      refine XS.iconst X923.here hx rfl (hb hby d21_17) ?_
      show Steps p.tables e below (T923.setTop (mkF m 18 #[.val (.ref d), .val (.int (1 : Int32)), .val (.int (0 : Int32))] [(.int (1 : Int32))])) _
      refine XS.goto X923.here hx rfl (pc0 := 18) (pc' := 22) rfl (hb hby d21_18) (by decide) (by decide) ?_
      show Steps p.tables e below (T923.setTop (mkF m 22 #[.val (.ref d), .val (.int (1 : Int32)), .val (.int (0 : Int32))] [(.int (1 : Int32))])) _
      exact kq)
    obtain ⟨fs, hr, hrun, hended, hW, hsame⟩ := X923.leave (v := some (.int (nar .boolean (1 : Int32)))) (fun h => by rw [Bd.returns] at h; cases h)
    refine ⟨_, _, (by rw [← hA0]; exact G930 _ (retN X923 hx (t := .boolean) Bd.returns (by simp) (hb hby d21_22) hr)), hrun, hended, _, _, rfl, ?_, ⟨_, rfl⟩, hW, hsame.mono (by decide) (by decide)⟩
    exact ⟨(by rw [show own_b ((fp1 0) < (fsz 1)) = (1 : Int32) from by simp only [own_b, hc929, not_true_eq_false, not_false_eq_true, if_true, if_false, or_true, true_or, or_false, false_or, and_true, true_and, and_false, false_and, and_self, or_self]]; rfl), N0, e923⟩
  · have G931 : Go p e below A0 (T923.setTop (mkF m 22 #[.val (.ref d), .val (.int (1 : Int32)), .val (.int (0 : Int32))] [(.int (0 : Int32))])) := fun tq kq => G928 tq (by
      refine XS.icmpYes X923.here hx rfl (pc0 := 14) (pc' := 21) rfl (hb hby d21_14) rfl (flt hc929).2.1 (by decide) (by decide) ?_
      show Steps p.tables e below (T923.setTop (mkF m 21 #[.val (.ref d), .val (.int (1 : Int32)), .val (.int (0 : Int32))] [])) _
      refine XS.iconst X923.here hx rfl (hb hby d21_21) ?_
      show Steps p.tables e below (T923.setTop (mkF m 22 #[.val (.ref d), .val (.int (1 : Int32)), .val (.int (0 : Int32))] [(.int (0 : Int32))])) _
      exact kq)
    obtain ⟨fs, hr, hrun, hended, hW, hsame⟩ := X923.leave (v := some (.int (nar .boolean (0 : Int32)))) (fun h => by rw [Bd.returns] at h; cases h)
    refine ⟨_, _, (by rw [← hA0]; exact G931 _ (retN X923 hx (t := .boolean) Bd.returns (by simp) (hb hby d21_22) hr)), hrun, hended, _, _, rfl, ?_, ⟨_, rfl⟩, hW, hsame.mono (by decide) (by decide)⟩
    exact ⟨(by rw [show own_b ((fp1 0) < (fsz 1)) = (0 : Int32) from by simp only [own_b, hc929, not_true_eq_false, not_false_eq_true, if_true, if_false, or_true, true_or, or_false, false_or, and_true, true_and, and_false, false_and, and_self, or_self]]; rfl), N0, e923⟩
set_option maxRecDepth 65536 in
set_option maxHeartbeats 40000000 in
theorem rmC1_1 (l : Launch) (Z : State) (a0 : Array Value) (hw : ∀ d ∈ tables_1, d.before a0 Z = true) (ws : List Jvm.Cond) (d mem pos siz mrk m0 p0 k0 m1 p1 k1 : Addr) (rd : Int32) (fsz fm0 fp0 fk0 fm1 fp1 fk1 : Nat → Int32) (h0 : Heap) (n0 : Nat) (Z0 : n0 ≤ h0.size) (hord : Ord n0 d mem pos siz mrk m0 p0 k0 m1 p1 k1) (hdom : Dom Z h0 d mem pos siz mrk m0 p0 k0 m1 p1 k1 rd (fsz) (fm0) (fp0) (fk0) (fm1) (fp1) (fk1)) :
    MetFree l (⟨"com/example/ludarc/ludarc/engine/Domains", "contains", "(II)Z"⟩ : MethodName) (head1 (Jvm.Cond.code (⟨"com/example/ludarc/ludarc/engine/Domains", "contains", "(II)Z"⟩ : MethodName) prog_5_method_5_code 3 (some .boolean) :: ws) ({ frames := 0, cells := 0, slots := 0, locals := 0 } : Room)) (fun aa UU => aa = #[(.ref d), (.int (1 : Int32)), (.int (1 : Int32))] ∧ Z.Warmed39 UU.vm ∧ UU.heap = h0) (fun _ _ _ _ _ => True) (fun _ UU oo U' => ∃ v L, oo = .returned v ∧ Qr (.int (own_b ((fp1 1) < (fsz 1)))) h0 n0 v U'.heap L ∧ FrameEnd UU oo U' L ({ frames := 0, cells := 0, slots := 0, locals := 0 } : Room).cells ({ frames := 0, cells := 0, slots := 0, locals := 0 } : Room).slots) := by
  refine MetFree.of_bodySF (plainFor_of_name pn_6) hisR ?_
  intro p e s m args below meth c s₁ Bd hml0 hP hK
  obtain ⟨rfl, hZ, hh⟩ := hP
  have hx := Bd.exec
  have hby := Bd.bytes
  have hml : c.maxLocals = 3 := hml0
  have hown : s.vm.findClass "com/example/ludarc/ludarc/engine/Domains" = some m.cls := findClass_of_methodNamed Bd.named
  have hnm := (name_of_methodNamed Bd.named Bd.method).1
  have X0 : Stand p l e ({ frames := 0, cells := 0, slots := 0, locals := 0 } : Room) s m #[(.ref d), (.int (1 : Int32)), (.int (1 : Int32))] below meth c s₁ [] 0 0 := Stand.of_body Bd
  have e0 : s₁.heap = h0 := by rw [← hh, Bd.state]; rfl
  have N0 := Fr.nil n0
  obtain ⟨A0, hA0⟩ : ∃ A, A = s₁.setTop (entryFrame m #[(.ref d), (.int (1 : Int32)), (.int (1 : Int32))] 3) := ⟨_, rfl⟩
  have G0 : Go p e below A0 (s₁.setTop (mkF m 0 #[.val (.ref d), .val (.int (1 : Int32)), .val (.int (1 : Int32))] [])) := fun tq kq => by rw [hA0]; exact castTop (ef_rmC1_1 m d (1 : Int32) (1 : Int32)) kq
  obtain ⟨o0, o1, o2, o3, o4, o5, o6, o7, o8, o9, o10⟩ := hord
  obtain ⟨Ed, D0_, D1_, D2_, D3_, D4_, ⟨cmem, Amem⟩, ⟨cpos, Apos⟩, ⟨cmrk, Amrk⟩, ⟨csiz, Asiz⟩, ⟨cm0, Am0⟩, ⟨cp0, Ap0⟩, ⟨ck0, Ak0⟩, ⟨cm1, Am1⟩, ⟨cp1, Ap1⟩, ⟨ck1, Ak1⟩⟩ := hdom
  have G932 : Go p e below A0 (s₁.setTop (mkF m 1 #[.val (.ref d), .val (.int (1 : Int32)), .val (.int (1 : Int32))] [(.ref d)])) := fun tq kq => G0 tq (by
    refine XS.aloadN X0.here hx rfl (hb hby d21_0) rfl rfl ?_
    show Steps p.tables e below (s₁.setTop (mkF m 1 #[.val (.ref d), .val (.int (1 : Int32)), .val (.int (1 : Int32))] [(.ref d)])) _
    exact kq)
  obtain ⟨T933, X933, e933, st933⟩ := getF X0 hx hZ hown (host := "") (Or.inl (hw _ (List.mem_of_getElem? (i := 106) rfl))) Via.refl e0 D2_ (g := (mkF m 1 #[.val (.ref d), .val (.int (1 : Int32)), .val (.int (1 : Int32))] [(.ref d)])) rfl rfl (hb hby d21_1)
  have G934 : Go p e below A0 (T933.setTop (mkF m 4 #[.val (.ref d), .val (.int (1 : Int32)), .val (.int (1 : Int32))] [(.ref pos)])) := fun tq kq => G932 tq (st933 _ kq)
  have G935 : Go p e below A0 (T933.setTop (mkF m 5 #[.val (.ref d), .val (.int (1 : Int32)), .val (.int (1 : Int32))] [(.int (1 : Int32)), (.ref pos)])) := fun tq kq => G934 tq (by
    refine XS.iloadN X933.here hx rfl (hb hby d21_4) rfl ?_
    show Steps p.tables e below (T933.setTop (mkF m 5 #[.val (.ref d), .val (.int (1 : Int32)), .val (.int (1 : Int32))] [(.int (1 : Int32)), (.ref pos)])) _
    exact kq)
  obtain ⟨cl936, Ar936, q936, S936, M936, H936, Gf936⟩ := id Apos
  have hi937 : ¬ ((1 : Int32) < 0 ∨ cl936.slots.size ≤ ((1 : Int32)).toNatClampNeg) := (inb_of S936 ⟨by decide, by decide⟩)
  have G938 : Go p e below A0 (T933.setTop (mkF m 7 #[.val (.ref d), .val (.int (1 : Int32)), .val (.int (1 : Int32))] [(.int (1 : Int32)), (.ref p1)])) := fun tq kq => G935 tq (by
    refine X933.aaload hx (j := (1 : Int32)) (v := (.ref p1)) (by rw [e933]; exact Ar936.1) (State.isArrayOf_alike hZ.alike Ar936.2.1) rfl Ar936.2.2 hi937 (H936.at hi937 rfl) (g := (mkF m 5 #[.val (.ref d), .val (.int (1 : Int32)), .val (.int (1 : Int32))] [(.int (1 : Int32)), (.ref pos)])) rfl rfl (hb hby d21_5) _ ?_
    show Steps p.tables e below (T933.setTop (mkF m 6 #[.val (.ref d), .val (.int (1 : Int32)), .val (.int (1 : Int32))] [(.ref p1)])) _
    refine XS.iloadN X933.here hx rfl (hb hby d21_6) rfl ?_
    show Steps p.tables e below (T933.setTop (mkF m 7 #[.val (.ref d), .val (.int (1 : Int32)), .val (.int (1 : Int32))] [(.int (1 : Int32)), (.ref p1)])) _
    exact kq)
  obtain ⟨cl939, Ar939, q939, S939, M939, H939⟩ := id Ap1
  have hi940 : ¬ ((1 : Int32) < 0 ∨ cl939.slots.size ≤ ((1 : Int32)).toNatClampNeg) := (inb_of S939 ⟨by decide, by decide⟩)
  have G941 : Go p e below A0 (T933.setTop (mkF m 9 #[.val (.ref d), .val (.int (1 : Int32)), .val (.int (1 : Int32))] [(.ref d), (.int (fp1 1))])) := fun tq kq => G938 tq (by
    refine X933.iaload hx (j := (1 : Int32)) (v := (.int (fp1 1))) (by rw [e933]; exact Ar939.1) (State.isArrayOf_alike hZ.alike Ar939.2.1) Ar939.2.2 hi940 ((H939 _ (S939 ▸ Nat.lt_of_not_le fun y => hi940 (Or.inr y))).trans (congrArg some rfl)) (g := (mkF m 7 #[.val (.ref d), .val (.int (1 : Int32)), .val (.int (1 : Int32))] [(.int (1 : Int32)), (.ref p1)])) rfl rfl (hb hby d21_7) _ ?_
    show Steps p.tables e below (T933.setTop (mkF m 8 #[.val (.ref d), .val (.int (1 : Int32)), .val (.int (1 : Int32))] [(.int (fp1 1))])) _
    refine XS.aloadN X933.here hx rfl (hb hby d21_8) rfl rfl ?_
    show Steps p.tables e below (T933.setTop (mkF m 9 #[.val (.ref d), .val (.int (1 : Int32)), .val (.int (1 : Int32))] [(.ref d), (.int (fp1 1))])) _
    exact kq)
  obtain ⟨T942, X942, e942, st942⟩ := getF X933 hx hZ hown (host := "") (Or.inl (hw _ (List.mem_of_getElem? (i := 108) rfl))) Via.refl e933 D3_ (g := (mkF m 9 #[.val (.ref d), .val (.int (1 : Int32)), .val (.int (1 : Int32))] [(.ref d), (.int (fp1 1))])) rfl rfl (hb hby d21_9)
  have G943 : Go p e below A0 (T942.setTop (mkF m 12 #[.val (.ref d), .val (.int (1 : Int32)), .val (.int (1 : Int32))] [(.ref siz), (.int (fp1 1))])) := fun tq kq => G941 tq (st942 _ kq)
  have G944 : Go p e below A0 (T942.setTop (mkF m 13 #[.val (.ref d), .val (.int (1 : Int32)), .val (.int (1 : Int32))] [(.int (1 : Int32)), (.ref siz), (.int (fp1 1))])) := fun tq kq => G943 tq (by
    refine XS.iloadN X942.here hx rfl (hb hby d21_12) rfl ?_
    show Steps p.tables e below (T942.setTop (mkF m 13 #[.val (.ref d), .val (.int (1 : Int32)), .val (.int (1 : Int32))] [(.int (1 : Int32)), (.ref siz), (.int (fp1 1))])) _
    exact kq)
  obtain ⟨cl945, Ar945, q945, S945, M945, H945⟩ := id Asiz
  have hi946 : ¬ ((1 : Int32) < 0 ∨ cl945.slots.size ≤ ((1 : Int32)).toNatClampNeg) := (inb_of S945 ⟨by decide, by decide⟩)
  have G947 : Go p e below A0 (T942.setTop (mkF m 14 #[.val (.ref d), .val (.int (1 : Int32)), .val (.int (1 : Int32))] [(.int (fsz 1)), (.int (fp1 1))])) := fun tq kq => G944 tq (by
    refine X942.iaload hx (j := (1 : Int32)) (v := (.int (fsz 1))) (by rw [e942]; exact Ar945.1) (State.isArrayOf_alike hZ.alike Ar945.2.1) Ar945.2.2 hi946 ((H945 _ (S945 ▸ Nat.lt_of_not_le fun y => hi946 (Or.inr y))).trans (congrArg some rfl)) (g := (mkF m 13 #[.val (.ref d), .val (.int (1 : Int32)), .val (.int (1 : Int32))] [(.int (1 : Int32)), (.ref siz), (.int (fp1 1))])) rfl rfl (hb hby d21_13) _ ?_
    show Steps p.tables e below (T942.setTop (mkF m 14 #[.val (.ref d), .val (.int (1 : Int32)), .val (.int (1 : Int32))] [(.int (fsz 1)), (.int (fp1 1))])) _
    exact kq)
  by_cases hc948 : (fp1 1) < (fsz 1)
  · have G949 : Go p e below A0 (T942.setTop (mkF m 22 #[.val (.ref d), .val (.int (1 : Int32)), .val (.int (1 : Int32))] [(.int (1 : Int32))])) := fun tq kq => G947 tq (by
      refine XS.icmpNo X942.here hx rfl (hb hby d21_14) rfl (tlt hc948).2.1 ?_
      show Steps p.tables e below (T942.setTop (mkF m 17 #[.val (.ref d), .val (.int (1 : Int32)), .val (.int (1 : Int32))] [])) _
      refine XS.iconst X942.here hx rfl (hb hby d21_17) ?_
      show Steps p.tables e below (T942.setTop (mkF m 18 #[.val (.ref d), .val (.int (1 : Int32)), .val (.int (1 : Int32))] [(.int (1 : Int32))])) _
      refine XS.goto X942.here hx rfl (pc0 := 18) (pc' := 22) rfl (hb hby d21_18) (by decide) (by decide) ?_
      show Steps p.tables e below (T942.setTop (mkF m 22 #[.val (.ref d), .val (.int (1 : Int32)), .val (.int (1 : Int32))] [(.int (1 : Int32))])) _
      exact kq)
    obtain ⟨fs, hr, hrun, hended, hW, hsame⟩ := X942.leave (v := some (.int (nar .boolean (1 : Int32)))) (fun h => by rw [Bd.returns] at h; cases h)
    refine ⟨_, _, (by rw [← hA0]; exact G949 _ (retN X942 hx (t := .boolean) Bd.returns (by simp) (hb hby d21_22) hr)), hrun, hended, _, _, rfl, ?_, ⟨_, rfl⟩, hW, hsame.mono (by decide) (by decide)⟩
    exact ⟨(by rw [show own_b ((fp1 1) < (fsz 1)) = (1 : Int32) from by simp only [own_b, hc948, not_true_eq_false, not_false_eq_true, if_true, if_false, or_true, true_or, or_false, false_or, and_true, true_and, and_false, false_and, and_self, or_self]]; rfl), N0, e942⟩
  · have G950 : Go p e below A0 (T942.setTop (mkF m 22 #[.val (.ref d), .val (.int (1 : Int32)), .val (.int (1 : Int32))] [(.int (0 : Int32))])) := fun tq kq => G947 tq (by
      refine XS.icmpYes X942.here hx rfl (pc0 := 14) (pc' := 21) rfl (hb hby d21_14) rfl (flt hc948).2.1 (by decide) (by decide) ?_
      show Steps p.tables e below (T942.setTop (mkF m 21 #[.val (.ref d), .val (.int (1 : Int32)), .val (.int (1 : Int32))] [])) _
      refine XS.iconst X942.here hx rfl (hb hby d21_21) ?_
      show Steps p.tables e below (T942.setTop (mkF m 22 #[.val (.ref d), .val (.int (1 : Int32)), .val (.int (1 : Int32))] [(.int (0 : Int32))])) _
      exact kq)
    obtain ⟨fs, hr, hrun, hended, hW, hsame⟩ := X942.leave (v := some (.int (nar .boolean (0 : Int32)))) (fun h => by rw [Bd.returns] at h; cases h)
    refine ⟨_, _, (by rw [← hA0]; exact G950 _ (retN X942 hx (t := .boolean) Bd.returns (by simp) (hb hby d21_22) hr)), hrun, hended, _, _, rfl, ?_, ⟨_, rfl⟩, hW, hsame.mono (by decide) (by decide)⟩
    exact ⟨(by rw [show own_b ((fp1 1) < (fsz 1)) = (0 : Int32) from by simp only [own_b, hc948, not_true_eq_false, not_false_eq_true, if_true, if_false, or_true, true_or, or_false, false_or, and_true, true_and, and_false, false_and, and_self, or_self]]; rfl), N0, e942⟩
theorem own_domE {Z : State} {h h' : Heap} {d mem pos siz mrk m0 p0 k0 m1 p1 k1 : Addr} {rd : Int32} {fsz fm0 fp0 fk0 fm1 fp1 fk1 : Nat → Int32} (D : Dom Z h d mem pos siz mrk m0 p0 k0 m1 p1 k1 rd fsz fm0 fp0 fk0 fm1 fp1 fk1) (E : Ext h h') : Dom Z h' d mem pos siz mrk m0 p0 k0 m1 p1 k1 rd fsz fm0 fp0 fk0 fm1 fp1 fk1 := by
  obtain ⟨e, f1, f2, f3, f4, f5, ⟨_, a1⟩, ⟨_, a2⟩, ⟨_, a3⟩, ⟨_, b1⟩, ⟨_, b2⟩, ⟨_, b3⟩, ⟨_, b4⟩, ⟨_, b5⟩, ⟨_, b6⟩, ⟨_, b7⟩⟩ := D
  exact ⟨e.ext E, f1.ext E, f2.ext E, f3.ext E, f4.ext E, f5.ext E, ⟨_, a1.ext E⟩, ⟨_, a2.ext E⟩, ⟨_, a3.ext E⟩, ⟨_, b1.ext E⟩, ⟨_, b2.ext E⟩, ⟨_, b3.ext E⟩, ⟨_, b4.ext E⟩, ⟨_, b5.ext E⟩, ⟨_, b6.ext E⟩, ⟨_, b7.ext E⟩⟩
theorem own_domW {Z : State} {n0 : Nat} {h h' : Heap} {a : Addr} {sl : Nat} {vq : Value} {d mem pos siz mrk m0 p0 k0 m1 p1 k1 : Addr} {rd : Int32} {fsz fm0 fp0 fk0 fm1 fp1 fk1 : Nat → Int32} (D : Dom Z h d mem pos siz mrk m0 p0 k0 m1 p1 k1 rd fsz fm0 fp0 fk0 fm1 fp1 fk1) (W : Wr h h' a sl vq) (ho : Ord n0 d mem pos siz mrk m0 p0 k0 m1 p1 k1) (hk : @LT.lt Nat _ k1 a) : Dom Z h' d mem pos siz mrk m0 p0 k0 m1 p1 k1 rd fsz fm0 fp0 fk0 fm1 fp1 fk1 := by
  obtain ⟨o0, o1, o2, o3, o4, o5, o6, o7, o8, o9, o10⟩ := ho
  obtain ⟨e, f1, f2, f3, f4, f5, ⟨_, a1⟩, ⟨_, a2⟩, ⟨_, a3⟩, ⟨_, b1⟩, ⟨_, b2⟩, ⟨_, b3⟩, ⟨_, b4⟩, ⟨_, b5⟩, ⟨_, b6⟩, ⟨_, b7⟩⟩ := D
  have nd : d ≠ a := (show @Ne Nat d a by omega)
  exact ⟨e.wr W, f1.other W (Or.inl nd), f2.other W (Or.inl nd), f3.other W (Or.inl nd), f4.other W (Or.inl nd), f5.other W (Or.inl nd), ⟨_, a1.other W (show @Ne Nat mem a by omega)⟩, ⟨_, a2.other W (show @Ne Nat pos a by omega)⟩, ⟨_, a3.other W (show @Ne Nat mrk a by omega)⟩, ⟨_, b1.other W (show @Ne Nat siz a by omega)⟩, ⟨_, b2.other W (show @Ne Nat m0 a by omega)⟩, ⟨_, b3.other W (show @Ne Nat p0 a by omega)⟩, ⟨_, b4.other W (show @Ne Nat k0 a by omega)⟩, ⟨_, b5.other W (show @Ne Nat m1 a by omega)⟩, ⟨_, b6.other W (show @Ne Nat p1 a by omega)⟩, ⟨_, b7.other W (show @Ne Nat k1 a by omega)⟩⟩
theorem own_domlt {Z : State} {h : Heap} {d mem pos siz mrk m0 p0 k0 m1 p1 k1 : Addr} {rd : Int32} {fsz fm0 fp0 fk0 fm1 fp1 fk1 : Nat → Int32} (D : Dom Z h d mem pos siz mrk m0 p0 k0 m1 p1 k1 rd fsz fm0 fp0 fk0 fm1 fp1 fk1) : @LT.lt Nat _ k1 h.size := by
  obtain ⟨e, f1, f2, f3, f4, f5, ⟨_, a1⟩, ⟨_, a2⟩, ⟨_, a3⟩, ⟨_, b1⟩, ⟨_, b2⟩, ⟨_, b3⟩, ⟨_, b4⟩, ⟨_, b5⟩, ⟨_, b6⟩, ⟨_, b7⟩⟩ := D
  exact b7.lt
def Stp (fsz fm0 fp0 fm1 fp1 ju jw : Nat → Int32) : Prop := Inv 4 fm0 fp0 ∧ Inv 2 fm1 fp1 ∧ (¬ fsz 0 < 0 ∧ (fsz 0).toNatClampNeg ≤ 4) ∧ (¬ fsz 1 < 0 ∧ (fsz 1).toNatClampNeg ≤ 2) ∧ (∀ i, i < 4 → ju i = own_b ((fp0 i) < (fsz 0))) ∧ (∀ i, i < 2 → jw i = own_b ((fp1 i) < (fsz 1)))
theorem own_zl {n : Nat} {z a : Int32} (hz : z.toInt = (n : Int)) (h1 : ¬ a < 0) (h2 : a.toNatClampNeg < n) : ¬ a < 0 ∧ a < z := ⟨h1, own_zlt h1 h2 z hz⟩
theorem own_ltn {n : Nat} {z a : Int32} (hz : z.toInt = (n : Int)) (h : ¬ a < 0 ∧ a < z) : a.toNatClampNeg < n := by
  have e1 := nat_of h.1
  have e2 := h.2
  rw [Int32.lt_iff_toInt_lt, hz, e1] at e2; omega
theorem own_rm {n : Nat} {z : Int32} (hz : z.toInt = (n : Int)) {fm fp g : Nat → Int32} {sq vq : Int32} (I : Inv n fm fp) (hs : ¬ sq < 0) (hsn : sq.toNatClampNeg ≤ n) (hg : ∀ i, i < n → g i = own_b ((fp i) < sq)) (hv : ¬ vq < 0 ∧ vq < z) (h : ¬ g vq.toNatClampNeg = (0 : Int32)) :
    (¬ (fp vq.toNatClampNeg) < 0 ∧ (fp vq.toNatClampNeg) < z) ∧ (¬ (sq - (1 : Int32)) < 0 ∧ (sq - (1 : Int32)) < z) ∧ (¬ (fm (fp vq.toNatClampNeg).toNatClampNeg) < 0 ∧ (fm (fp vq.toNatClampNeg).toNatClampNeg) < z) ∧ (¬ (own_sm fm (fp vq.toNatClampNeg) (sq - (1 : Int32)) (fp vq.toNatClampNeg).toNatClampNeg) < 0 ∧ (own_sm fm (fp vq.toNatClampNeg) (sq - (1 : Int32)) (fp vq.toNatClampNeg).toNatClampNeg) < z) ∧ Inv n (own_sm fm (fp vq.toNatClampNeg) (sq - (1 : Int32))) (own_sp fm fp (fp vq.toNatClampNeg) (sq - (1 : Int32))) ∧ (sq - (1 : Int32)).toNatClampNeg ≤ n ∧ ∀ i, i < n → own_up g vq.toNatClampNeg (0 : Int32) i = own_b ((own_sp fm fp (fp vq.toNatClampNeg) (sq - (1 : Int32)) i) < (sq - (1 : Int32))) := by
  have hvn := own_ltn hz hv
  have hin : fp vq.toNatClampNeg < sq := Classical.byContradiction fun q => h (by rw [hg _ hvn]; exact own_b0 q)
  obtain ⟨r1, r2, r3, r4⟩ := own_removed I hs hvn hin hsn
  have hp := I.2.1 _ hvn
  have I' := own_swapInv I hp.1 hp.2 r1 r2
  refine ⟨own_zl hz hp.1 hp.2, own_zl hz r1 r2, own_zl hz (I.1 _ hp.2).1 (I.1 _ hp.2).2, own_zl hz (I'.1 _ hp.2).1 (I'.1 _ hp.2).2, I', r3, fun i hi => ?_⟩
  by_cases e : i = vq.toNatClampNeg
  · rw [e]; unfold own_up; rw [if_pos rfl]; exact (own_b0 (fun q => ((r4 _ hvn).mp q).2 rfl)).symm
  · unfold own_up; rw [if_neg e, hg i hi]; exact own_beq ((r4 i hi).trans ⟨And.left, fun q => ⟨q, e⟩⟩).symm
theorem own_as {n : Nat} {z : Int32} (hz : z.toInt = (n : Int)) (h0n : 0 < n) {fm fp : Nat → Int32} {vq : Int32} (I : Inv n fm fp) (hv : ¬ vq < 0 ∧ vq < z) :
    (¬ (fp vq.toNatClampNeg) < 0 ∧ (fp vq.toNatClampNeg) < z) ∧ (¬ (0 : Int32) < 0 ∧ (0 : Int32) < z) ∧ (¬ (fm (fp vq.toNatClampNeg).toNatClampNeg) < 0 ∧ (fm (fp vq.toNatClampNeg).toNatClampNeg) < z) ∧ (¬ (own_sm fm (fp vq.toNatClampNeg) (0 : Int32) (fp vq.toNatClampNeg).toNatClampNeg) < 0 ∧ (own_sm fm (fp vq.toNatClampNeg) (0 : Int32) (fp vq.toNatClampNeg).toNatClampNeg) < z) ∧ Inv n (own_sm fm (fp vq.toNatClampNeg) (0 : Int32)) (own_sp fm fp (fp vq.toNatClampNeg) (0 : Int32)) ∧ ∀ i, i < n → (if i = vq.toNatClampNeg then (1 : Int32) else (0 : Int32)) = own_b ((own_sp fm fp (fp vq.toNatClampNeg) (0 : Int32) i) < (1 : Int32)) := by
  have hvn := own_ltn hz hv
  have hp := I.2.1 _ hvn
  have z0 : ¬ (0 : Int32) < 0 := by decide
  have e0 : (0 : Int32).toNatClampNeg = 0 := by decide
  have z1 : (0 : Int32).toNatClampNeg < n := by rw [e0]; exact h0n
  have I' := own_swapInv I hp.1 hp.2 z0 z1
  refine ⟨own_zl hz hp.1 hp.2, own_zl hz z0 z1, own_zl hz (I.1 _ hp.2).1 (I.1 _ hp.2).2, own_zl hz (I'.1 _ hp.2).1 (I'.1 _ hp.2).2, I', fun i hi => ?_⟩
  have r := own_assigned I hvn i hi
  by_cases e : i = vq.toNatClampNeg
  · rw [if_pos e, own_bt (r.mpr e)]
  · rw [if_neg e, own_b0 (fun q => e (r.mp q))]
theorem own_five (g : Nat → Int32) (vn : Nat) : ∀ i, i < 4 → own_up (own_up (own_up (own_up (own_up g 0 (0 : Int32)) 1 (0 : Int32)) 2 (0 : Int32)) 3 (0 : Int32)) vn (1 : Int32) i = if i = vn then (1 : Int32) else (0 : Int32) := by
  intro i hi
  unfold own_up
  have q : i = 0 ∨ i = 1 ∨ i = 2 ∨ i = 3 := by omega
  by_cases e : i = vn
  · rw [if_pos e, if_pos e]
  · rw [if_neg e, if_neg e]
    rcases q with rfl | rfl | rfl | rfl <;> simp
theorem own_and3 (y : Int32) : ¬ (y &&& (3 : Int32)) < (0 : Int32) ∧ (y &&& (3 : Int32)) < (4 : Int32) := by
  have a := c_and y 3 (by decide)
  have e0 : (0 : Int32).toInt = 0 := by decide
  have e3 : (3 : Int32).toInt = 3 := by decide
  have e4 : (4 : Int32).toInt = 4 := by decide
  rw [Int32.lt_iff_toInt_lt, Int32.lt_iff_toInt_lt, e0, e4]; rw [e3] at a; omega
theorem own_and1 (y : Int32) : ¬ (y &&& (1 : Int32)) < (0 : Int32) ∧ (y &&& (1 : Int32)) < (2 : Int32) := by
  have a := c_and y 1 (by decide)
  have e0 : (0 : Int32).toInt = 0 := by decide
  have e3 : (1 : Int32).toInt = 1 := by decide
  have e4 : (2 : Int32).toInt = 2 := by decide
  rw [Int32.lt_iff_toInt_lt, Int32.lt_iff_toInt_lt, e0, e4]; rw [e3] at a; omega
def own_one (j : Nat) : Int32 := 1
theorem own_one4 : ∀ j, j < (4 : Int32).toNatClampNeg → ([.int (1 : Int32), .int (1 : Int32), .int (1 : Int32), .int (1 : Int32)] : List Value).getD j (.int (0 : Int32)) = .int (own_one j) := by
  intro j hj
  have hj' : j < 4 := hj
  match j, hj' with
  | 0, _ => rfl
  | 1, _ => rfl
  | 2, _ => rfl
  | 3, _ => rfl
theorem own_one2 : ∀ j, j < (2 : Int32).toNatClampNeg → ([.int (1 : Int32), .int (1 : Int32)] : List Value).getD j (.int (0 : Int32)) = .int (own_one j) := by
  intro j hj
  have hj' : j < 2 := hj
  match j, hj' with
  | 0, _ => rfl
  | 1, _ => rfl
theorem own_stp0 : Stp own_sz own_id own_id own_id own_id own_one own_one := by
  unfold Stp Inv own_R
  decide +kernel
def Qst (Z : State) (d mem pos siz mrk m0 p0 k0 m1 p1 k1 : Addr) (rd : Int32) (fsz fm0 fp0 fk0 fm1 fp1 fk1 : Nat → Int32) (in0 in1 : Addr) (ki0 ki1 : ClassId) (ju jw : Nat → Int32) (h0 : Heap) (n0 : Nat) (v : Option Value) (h : Heap) (L : List Loc) : Prop := ∃ fsz' fm0' fp0' fm1' fp1' ju' jw', v = none ∧ Fr n0 L ∧ Keep h0 h [siz, m0, p0, m1, p1, in0, in1] ∧ Dom Z h d mem pos siz mrk m0 p0 k0 m1 p1 k1 rd fsz' fm0' fp0' fk0 fm1' fp1' fk1 ∧ Af Z h in0 ki0 .boolean (4 : Int32) (fun i => .int (ju' i)) ∧ Af Z h in1 ki1 .boolean (2 : Int32) (fun i => .int (jw' i)) ∧ Stp fsz' fm0' fp0' fm1' fp1' ju' jw'
set_option maxRecDepth 65536 in
set_option maxHeartbeats 40000000 in
theorem rmST (l : Launch) (Z : State) (a0 : Array Value) (hw : ∀ d ∈ tables_1, d.before a0 Z = true) (ws : List Jvm.Cond) (d mem pos siz mrk m0 p0 k0 m1 p1 k1 : Addr) (rd : Int32) (fsz fm0 fp0 fk0 fm1 fp1 fk1 : Nat → Int32) (in0 in1 : Addr) (ki0 ki1 : ClassId) (ju jw : Nat → Int32) (xx : Int32) (h0 : Heap) (n0 : Nat) (Z0 : n0 ≤ h0.size) (hord : Ord n0 d mem pos siz mrk m0 p0 k0 m1 p1 k1) (hdom : Dom Z h0 d mem pos siz mrk m0 p0 k0 m1 p1 k1 rd (fsz) (fm0) (fp0) (fk0) (fm1) (fp1) (fk1)) (hio : @LT.lt Nat _ k1 in0 ∧ @LT.lt Nat _ in0 in1) (hin0 : Af Z h0 in0 ki0 .boolean (4 : Int32) (fun i => .int (ju i))) (hin1 : Af Z h0 in1 ki1 .boolean (2 : Int32) (fun i => .int (jw i))) (hst : Stp fsz fm0 fp0 fm1 fp1 ju jw) :
    MetFree l (⟨"com/example/ludarc/ludarc/engine/DomainsContainsPinLaw", "step", "(Lcom/example/ludarc/ludarc/engine/Domains;[Z[ZI)V"⟩ : MethodName) (head1 (Jvm.Cond.code (⟨"com/example/ludarc/ludarc/engine/DomainsContainsPinLaw", "step", "(Lcom/example/ludarc/ludarc/engine/Domains;[Z[ZI)V"⟩ : MethodName) method_3_code 7 none :: ws) ({ frames := 2, cells := 0, slots := 0, locals := 32 } : Room)) (fun aa UU => aa = #[(.ref d), (.ref in0), (.ref in1), (.int xx)] ∧ Z.Warmed39 UU.vm ∧ UU.heap = h0) (fun _ _ _ _ _ => True) (fun _ UU oo U' => ∃ v L, oo = .returned v ∧ Qst Z d mem pos siz mrk m0 p0 k0 m1 p1 k1 rd fsz fm0 fp0 fk0 fm1 fp1 fk1 in0 in1 ki0 ki1 ju jw h0 n0 v U'.heap L ∧ FrameEnd UU oo U' L ({ frames := 2, cells := 0, slots := 0, locals := 32 } : Room).cells ({ frames := 2, cells := 0, slots := 0, locals := 32 } : Room).slots) := by
  refine MetFree.of_bodySF (plainFor_of_name pn_7) hisR ?_
  intro p e s m args below meth c s₁ Bd hml0 hP hK
  obtain ⟨rfl, hZ, hh⟩ := hP
  have hx := Bd.exec
  have hby := Bd.bytes
  have hml : c.maxLocals = 7 := hml0
  have hown : s.vm.findClass "com/example/ludarc/ludarc/engine/DomainsContainsPinLaw" = some m.cls := findClass_of_methodNamed Bd.named
  have hnm := (name_of_methodNamed Bd.named Bd.method).1
  have X0 : Stand p l e ({ frames := 2, cells := 0, slots := 0, locals := 32 } : Room) s m #[(.ref d), (.ref in0), (.ref in1), (.int xx)] below meth c s₁ [] 0 0 := Stand.of_body Bd
  have e0 : s₁.heap = h0 := by rw [← hh, Bd.state]; rfl
  have N0 := Fr.nil n0
  obtain ⟨A0, hA0⟩ : ∃ A, A = s₁.setTop (entryFrame m #[(.ref d), (.ref in0), (.ref in1), (.int xx)] 7) := ⟨_, rfl⟩
  have G0 : Go p e below A0 (s₁.setTop (mkF m 0 #[.val (.ref d), .val (.ref in0), .val (.ref in1), .val (.int xx), .unset, .unset, .unset] [])) := fun tq kq => by rw [hA0]; exact castTop (ef_rmST m d in0 in1 xx) kq
  obtain ⟨o0, o1, o2, o3, o4, o5, o6, o7, o8, o9, o10⟩ := id hord
  obtain ⟨o11, o12⟩ := id hio
  have o13 : @LT.lt Nat _ k1 in1 := by omega
  obtain ⟨vv, hG951, G951⟩ : ∃ (vv : Int32), (¬ vv < (0 : Int32) ∧ vv < (4 : Int32)) ∧ Go p e below A0 (s₁.setTop (mkF m 5 #[.val (.ref d), .val (.ref in0), .val (.ref in1), .val (.int xx), .val (.int vv), .unset, .unset] [])) := by
    have G952 : Go p e below A0 (s₁.setTop (mkF m 5 #[.val (.ref d), .val (.ref in0), .val (.ref in1), .val (.int xx), .val (.int (xx &&& (3 : Int32))), .unset, .unset] [])) := fun tq kq => G0 tq (by
      refine XS.iloadN X0.here hx rfl (hb hby d18_0) rfl ?_
      show Steps p.tables e below (s₁.setTop (mkF m 1 #[.val (.ref d), .val (.ref in0), .val (.ref in1), .val (.int xx), .unset, .unset, .unset] [(.int xx)])) _
      refine XS.iconst X0.here hx rfl (hb hby d18_1) ?_
      show Steps p.tables e below (s₁.setTop (mkF m 2 #[.val (.ref d), .val (.ref in0), .val (.ref in1), .val (.int xx), .unset, .unset, .unset] [(.int (3 : Int32)), (.int xx)])) _
      refine XS.iand X0.here hx rfl (hb hby d18_2) rfl ?_
      show Steps p.tables e below (s₁.setTop (mkF m 3 #[.val (.ref d), .val (.ref in0), .val (.ref in1), .val (.int xx), .unset, .unset, .unset] [(.int (xx &&& (3 : Int32)))])) _
      refine XS.istore X0.here hx rfl (hb hby d18_3) rfl (l' := #[.val (.ref d), .val (.ref in0), .val (.ref in1), .val (.int xx), .val (.int (xx &&& (3 : Int32))), .unset, .unset]) rfl ?_
      show Steps p.tables e below (s₁.setTop (mkF m 5 #[.val (.ref d), .val (.ref in0), .val (.ref in1), .val (.int xx), .val (.int (xx &&& (3 : Int32))), .unset, .unset] [])) _
      exact kq)
    exact ⟨(xx &&& (3 : Int32)), (by exact own_and3 xx), G952⟩
  have hvv := hG951
  have G953 : Go p e below A0 (s₁.setTop (mkF m 14 #[.val (.ref d), .val (.ref in0), .val (.ref in1), .val (.int xx), .val (.int vv), .val (.int (((xx.toUInt32 >>> ((2 : Int32) &&& 31).toUInt32).toInt32) &&& (3 : Int32))), .unset] [(.int (((xx.toUInt32 >>> ((2 : Int32) &&& 31).toUInt32).toInt32) &&& (3 : Int32)))])) := fun tq kq => G951 tq (by
    refine XS.iloadN X0.here hx rfl (hb hby d18_5) rfl ?_
    show Steps p.tables e below (s₁.setTop (mkF m 6 #[.val (.ref d), .val (.ref in0), .val (.ref in1), .val (.int xx), .val (.int vv), .unset, .unset] [(.int xx)])) _
    refine XS.iconst X0.here hx rfl (hb hby d18_6) ?_
    show Steps p.tables e below (s₁.setTop (mkF m 7 #[.val (.ref d), .val (.ref in0), .val (.ref in1), .val (.int xx), .val (.int vv), .unset, .unset] [(.int (2 : Int32)), (.int xx)])) _
    refine XS.iushr X0.here hx rfl (hb hby d18_7) rfl ?_
    show Steps p.tables e below (s₁.setTop (mkF m 8 #[.val (.ref d), .val (.ref in0), .val (.ref in1), .val (.int xx), .val (.int vv), .unset, .unset] [(.int ((xx.toUInt32 >>> ((2 : Int32) &&& 31).toUInt32).toInt32))])) _
    refine XS.iconst X0.here hx rfl (hb hby d18_8) ?_
    show Steps p.tables e below (s₁.setTop (mkF m 9 #[.val (.ref d), .val (.ref in0), .val (.ref in1), .val (.int xx), .val (.int vv), .unset, .unset] [(.int (3 : Int32)), (.int ((xx.toUInt32 >>> ((2 : Int32) &&& 31).toUInt32).toInt32))])) _
    refine XS.iand X0.here hx rfl (hb hby d18_9) rfl ?_
    show Steps p.tables e below (s₁.setTop (mkF m 10 #[.val (.ref d), .val (.ref in0), .val (.ref in1), .val (.int xx), .val (.int vv), .unset, .unset] [(.int (((xx.toUInt32 >>> ((2 : Int32) &&& 31).toUInt32).toInt32) &&& (3 : Int32)))])) _
    refine XS.istore X0.here hx rfl (hb hby d18_10) rfl (l' := #[.val (.ref d), .val (.ref in0), .val (.ref in1), .val (.int xx), .val (.int vv), .val (.int (((xx.toUInt32 >>> ((2 : Int32) &&& 31).toUInt32).toInt32) &&& (3 : Int32))), .unset]) rfl ?_
    show Steps p.tables e below (s₁.setTop (mkF m 12 #[.val (.ref d), .val (.ref in0), .val (.ref in1), .val (.int xx), .val (.int vv), .val (.int (((xx.toUInt32 >>> ((2 : Int32) &&& 31).toUInt32).toInt32) &&& (3 : Int32))), .unset] [])) _
    refine XS.iload X0.here hx rfl (hb hby d18_12) rfl ?_
    show Steps p.tables e below (s₁.setTop (mkF m 14 #[.val (.ref d), .val (.ref in0), .val (.ref in1), .val (.int xx), .val (.int vv), .val (.int (((xx.toUInt32 >>> ((2 : Int32) &&& 31).toUInt32).toInt32) &&& (3 : Int32))), .unset] [(.int (((xx.toUInt32 >>> ((2 : Int32) &&& 31).toUInt32).toInt32) &&& (3 : Int32)))])) _
    exact kq)
  by_cases hc954 : (((xx.toUInt32 >>> ((2 : Int32) &&& 31).toUInt32).toInt32) &&& (3 : Int32)) = (0 : Int32)
  · have G955 : Go p e below A0 (s₁.setTop (mkF m 20 #[.val (.ref d), .val (.ref in0), .val (.ref in1), .val (.int xx), .val (.int vv), .val (.int (((xx.toUInt32 >>> ((2 : Int32) &&& 31).toUInt32).toInt32) &&& (3 : Int32))), .unset] [(.int vv), (.ref in0)])) := fun tq kq => G953 tq (by
      refine XS.ifNo X0.here hx rfl (hb hby d18_14) rfl ((if0 _ _).trans (teq hc954).2) ?_
      show Steps p.tables e below (s₁.setTop (mkF m 17 #[.val (.ref d), .val (.ref in0), .val (.ref in1), .val (.int xx), .val (.int vv), .val (.int (((xx.toUInt32 >>> ((2 : Int32) &&& 31).toUInt32).toInt32) &&& (3 : Int32))), .unset] [])) _
      refine XS.aloadN X0.here hx rfl (hb hby d18_17) rfl rfl ?_
      show Steps p.tables e below (s₁.setTop (mkF m 18 #[.val (.ref d), .val (.ref in0), .val (.ref in1), .val (.int xx), .val (.int vv), .val (.int (((xx.toUInt32 >>> ((2 : Int32) &&& 31).toUInt32).toInt32) &&& (3 : Int32))), .unset] [(.ref in0)])) _
      refine XS.iload X0.here hx rfl (hb hby d18_18) rfl ?_
      show Steps p.tables e below (s₁.setTop (mkF m 20 #[.val (.ref d), .val (.ref in0), .val (.ref in1), .val (.int xx), .val (.int vv), .val (.int (((xx.toUInt32 >>> ((2 : Int32) &&& 31).toUInt32).toInt32) &&& (3 : Int32))), .unset] [(.int vv), (.ref in0)])) _
      exact kq)
    obtain ⟨cl956, Ar956, q956, S956, M956, H956⟩ := id hin0
    have hi957 : ¬ (vv < 0 ∨ cl956.slots.size ≤ (vv).toNatClampNeg) := (inb_of S956 hvv)
    have G958 : Go p e below A0 (s₁.setTop (mkF m 21 #[.val (.ref d), .val (.ref in0), .val (.ref in1), .val (.int xx), .val (.int vv), .val (.int (((xx.toUInt32 >>> ((2 : Int32) &&& 31).toUInt32).toInt32) &&& (3 : Int32))), .unset] [(.int (ju (vv).toNatClampNeg))])) := fun tq kq => G955 tq (by
      refine X0.baloadBooleans hx (j := vv) (v := (.int (ju (vv).toNatClampNeg))) (by rw [e0]; exact Ar956.1) (State.isArrayOf_alike hZ.alike Ar956.2.1) Ar956.2.2 hi957 ((H956 _ (S956 ▸ Nat.lt_of_not_le fun y => hi957 (Or.inr y))).trans (congrArg some rfl)) (g := (mkF m 20 #[.val (.ref d), .val (.ref in0), .val (.ref in1), .val (.int xx), .val (.int vv), .val (.int (((xx.toUInt32 >>> ((2 : Int32) &&& 31).toUInt32).toInt32) &&& (3 : Int32))), .unset] [(.int vv), (.ref in0)])) rfl rfl (hb hby d18_20) _ ?_
      show Steps p.tables e below (s₁.setTop (mkF m 21 #[.val (.ref d), .val (.ref in0), .val (.ref in1), .val (.int xx), .val (.int vv), .val (.int (((xx.toUInt32 >>> ((2 : Int32) &&& 31).toUInt32).toInt32) &&& (3 : Int32))), .unset] [(.int (ju (vv).toNatClampNeg))])) _
      exact kq)
    by_cases hc959 : (ju (vv).toNatClampNeg) = (0 : Int32)
    · have G960 : Go p e below A0 (s₁.setTop (mkF m 114 #[.val (.ref d), .val (.ref in0), .val (.ref in1), .val (.int xx), .val (.int vv), .val (.int (((xx.toUInt32 >>> ((2 : Int32) &&& 31).toUInt32).toInt32) &&& (3 : Int32))), .unset] [])) := fun tq kq => G958 tq (by
        refine XS.ifYes X0.here hx rfl (pc0 := 21) (pc' := 114) rfl (hb hby d18_21) rfl ((if0 _ _).trans (teq hc959).1) (by decide) (by decide) ?_
        show Steps p.tables e below (s₁.setTop (mkF m 114 #[.val (.ref d), .val (.ref in0), .val (.ref in1), .val (.int xx), .val (.int vv), .val (.int (((xx.toUInt32 >>> ((2 : Int32) &&& 31).toUInt32).toInt32) &&& (3 : Int32))), .unset] [])) _
        exact kq)
      obtain ⟨fs, hr, hrun, hended, hW, hsame⟩ := X0.leave (v := none) (fun _ => rfl)
      refine ⟨_, _, (by rw [← hA0]; exact G960 _ (X0.returnOut hx Bd.returns (hb hby d18_114) hr)), hrun, hended, _, _, rfl, ?_, ⟨_, rfl⟩, hW, hsame.mono (by decide) (by decide)⟩
      show Qst Z d mem pos siz mrk m0 p0 k0 m1 p1 k1 rd fsz fm0 fp0 fk0 fm1 fp1 fk1 in0 in1 ki0 ki1 ju jw h0 n0 _ s₁.heap _
      rw [e0]
      exact ⟨fsz, fm0, fp0, fm1, fp1, ju, jw, rfl, N0, (Keep.refl h0 [siz, m0, p0, m1, p1, in0, in1]), hdom, hin0, hin1, hst⟩
    · have G961 : Go p e below A0 (s₁.setTop (mkF m 28 #[.val (.ref d), .val (.ref in0), .val (.ref in1), .val (.int xx), .val (.int vv), .val (.int (((xx.toUInt32 >>> ((2 : Int32) &&& 31).toUInt32).toInt32) &&& (3 : Int32))), .unset] [(.int vv), (.int (0 : Int32)), (.ref d)])) := fun tq kq => G958 tq (by
        refine XS.ifNo X0.here hx rfl (hb hby d18_21) rfl ((if0 _ _).trans (feq hc959).1) ?_
        show Steps p.tables e below (s₁.setTop (mkF m 24 #[.val (.ref d), .val (.ref in0), .val (.ref in1), .val (.int xx), .val (.int vv), .val (.int (((xx.toUInt32 >>> ((2 : Int32) &&& 31).toUInt32).toInt32) &&& (3 : Int32))), .unset] [])) _
        refine XS.aloadN X0.here hx rfl (hb hby d18_24) rfl rfl ?_
        show Steps p.tables e below (s₁.setTop (mkF m 25 #[.val (.ref d), .val (.ref in0), .val (.ref in1), .val (.int xx), .val (.int vv), .val (.int (((xx.toUInt32 >>> ((2 : Int32) &&& 31).toUInt32).toInt32) &&& (3 : Int32))), .unset] [(.ref d)])) _
        refine XS.iconst X0.here hx rfl (hb hby d18_25) ?_
        show Steps p.tables e below (s₁.setTop (mkF m 26 #[.val (.ref d), .val (.ref in0), .val (.ref in1), .val (.int xx), .val (.int vv), .val (.int (((xx.toUInt32 >>> ((2 : Int32) &&& 31).toUInt32).toInt32) &&& (3 : Int32))), .unset] [(.int (0 : Int32)), (.ref d)])) _
        refine XS.iload X0.here hx rfl (hb hby d18_26) rfl ?_
        show Steps p.tables e below (s₁.setTop (mkF m 28 #[.val (.ref d), .val (.ref in0), .val (.ref in1), .val (.int xx), .val (.int vv), .val (.int (((xx.toUInt32 >>> ((2 : Int32) &&& 31).toUInt32).toInt32) &&& (3 : Int32))), .unset] [(.int vv), (.int (0 : Int32)), (.ref d)])) _
        exact kq)
      have hr := own_rm (n := 4) (z := (4 : Int32)) (by decide) hst.1 hst.2.2.1.1 hst.2.2.1.2 hst.2.2.2.2.1 hvv hc959
      obtain ⟨cq962, kq962, q962a, q962b, q962c⟩ := isOf hZ e0 hdom.1
      obtain ⟨_, _, ⟨T962, L962, k962, n962⟩, -, X962, ⟨Lc962, hQ962, l962, y962, z962⟩, st962⟩ := X0.virtualBack hx (y := (⟨"com/example/ludarc/ludarc/engine/Domains", "remove", "(II)V"⟩ : MethodName)) (z := (⟨"com/example/ludarc/ludarc/engine/Domains", "remove", "(II)V"⟩ : MethodName)) hown (mvT hZ (hw _ (List.mem_of_getElem? (i := 146) rfl))) (mvT hZ (hw _ (List.mem_of_getElem? (i := 147) rfl))) (notFace_of_selects (args := #[]) (mvT hZ (hw _ (List.mem_of_getElem? (i := 149) rfl)))) (mvT hZ (hw _ (List.mem_of_getElem? (i := 149) rfl))) (mvT hZ (hw _ (List.mem_of_getElem? (i := 148) rfl))) (by decide) (backOf (W := 0) (rmR0 l Z a0 hw [] d mem pos siz mrk m0 p0 k0 m1 p1 k1 rd fsz fm0 fp0 fk0 fm1 fp1 fk1 vv h0 n0 Z0 hord hdom hvv hr.1 hr.2.1 hr.2.2.1 hr.2.2.2.1) hZ (hw _ (List.mem_of_getElem? (i := 150) rfl)) (hw _ (List.mem_of_getElem? (i := 86) rfl)) (by decide) (by decide)) q962a q962c (g := (mkF m 28 #[.val (.ref d), .val (.ref in0), .val (.ref in1), .val (.int xx), .val (.int vv), .val (.int (((xx.toUInt32 >>> ((2 : Int32) &&& 31).toUInt32).toInt32) &&& (3 : Int32))), .unset] [(.int vv), (.int (0 : Int32)), (.ref d)])) rfl (by rw [hml]; rfl) (Steps.refl _) (argsL := [(.int (0 : Int32)), (.int vv)]) (rest := []) (lenOf pd_9 rfl) rfl (by show 2 * 0 + _ ≤ _; exact Nat.le_of_eq rfl) (hb hby d18_28) (fun _ _ => ⟨rfl, e0, (by decide : 0 + 0 ≤ _), (by decide : 0 + 0 ≤ _)⟩)
      dsimp only [Pt.U, Pt.locs, Pt.cells, Pt.slots] at X962 l962 y962 z962 st962 hQ962
      obtain rfl : k962 = 0 := y962
      obtain rfl : n962 = 0 := z962
      obtain ⟨rfl, N962q, K962, dom962⟩ := hQ962
      have N962 : Fr n0 L962 := by rw [l962]; exact Fr.app N0 N962q
      have G963 : Go p e below A0 (T962.setTop (mkF m 31 #[.val (.ref d), .val (.ref in0), .val (.ref in1), .val (.int xx), .val (.int vv), .val (.int (((xx.toUInt32 >>> ((2 : Int32) &&& 31).toUInt32).toInt32) &&& (3 : Int32))), .unset] [])) := fun tq kq => G961 tq (st962.trans kq)
      have G964 : Go p e below A0 (T962.setTop (mkF m 35 #[.val (.ref d), .val (.ref in0), .val (.ref in1), .val (.int xx), .val (.int vv), .val (.int (((xx.toUInt32 >>> ((2 : Int32) &&& 31).toUInt32).toInt32) &&& (3 : Int32))), .unset] [(.int (0 : Int32)), (.int vv), (.ref in0)])) := fun tq kq => G963 tq (by
        refine XS.aloadN X962.here hx rfl (hb hby d18_31) rfl rfl ?_
        show Steps p.tables e below (T962.setTop (mkF m 32 #[.val (.ref d), .val (.ref in0), .val (.ref in1), .val (.int xx), .val (.int vv), .val (.int (((xx.toUInt32 >>> ((2 : Int32) &&& 31).toUInt32).toInt32) &&& (3 : Int32))), .unset] [(.ref in0)])) _
        refine XS.iload X962.here hx rfl (hb hby d18_32) rfl ?_
        show Steps p.tables e below (T962.setTop (mkF m 34 #[.val (.ref d), .val (.ref in0), .val (.ref in1), .val (.int xx), .val (.int vv), .val (.int (((xx.toUInt32 >>> ((2 : Int32) &&& 31).toUInt32).toInt32) &&& (3 : Int32))), .unset] [(.int vv), (.ref in0)])) _
        refine XS.iconst X962.here hx rfl (hb hby d18_34) ?_
        show Steps p.tables e below (T962.setTop (mkF m 35 #[.val (.ref d), .val (.ref in0), .val (.ref in1), .val (.int xx), .val (.int vv), .val (.int (((xx.toUInt32 >>> ((2 : Int32) &&& 31).toUInt32).toInt32) &&& (3 : Int32))), .unset] [(.int (0 : Int32)), (.int vv), (.ref in0)])) _
        exact kq)
      have f965 := (hin0.keep K962 (ninS (Ne.symm (show @Ne Nat m0 in0 by omega)) (ninS (Ne.symm (show @Ne Nat p0 in0 by omega)) (ninS (Ne.symm (show @Ne Nat siz in0 by omega)) nin0))))
      obtain ⟨cl966, Ar966, q966, S966, M966, H966⟩ := id f965
      have hi967 : ¬ (vv < 0 ∨ cl966.slots.size ≤ (vv).toNatClampNeg) := (inb_of S966 hvv)
      obtain ⟨T968, h968, X968, e968, W968, st968⟩ := stZ X962 hx hZ rfl Ar966 (j := vv) hi967 (g := (mkF m 35 #[.val (.ref d), .val (.ref in0), .val (.ref in1), .val (.int xx), .val (.int vv), .val (.int (((xx.toUInt32 >>> ((2 : Int32) &&& 31).toUInt32).toInt32) &&& (3 : Int32))), .unset] [(.int (0 : Int32)), (.int vv), (.ref in0)])) rfl rfl (hb hby d18_35)
      rw [show nar .boolean (0 : Int32) = (0 : Int32) from by decide] at W968
      have N968 := Fr.snoc X968 N962 (show @LE.le Nat _ n0 in0 by omega)
      have V968 : Af Z h968 in0 ki0 .boolean (4 : Int32) (fun i => .int ((own_up ju (vv).toNatClampNeg (0 : Int32)) i)) := (Af.set Ar966 q966 S966 M966 H966 W968 hi967).fn (fun j _ => own_upf _ _ _ _ rfl j)
      have G969 : Go p e below A0 (T968.setTop (mkF m 36 #[.val (.ref d), .val (.ref in0), .val (.ref in1), .val (.int xx), .val (.int vv), .val (.int (((xx.toUInt32 >>> ((2 : Int32) &&& 31).toUInt32).toInt32) &&& (3 : Int32))), .unset] [])) := fun tq kq => G964 tq (st968 _ kq)
      have G970 : Go p e below A0 (T968.setTop (mkF m 114 #[.val (.ref d), .val (.ref in0), .val (.ref in1), .val (.int xx), .val (.int vv), .val (.int (((xx.toUInt32 >>> ((2 : Int32) &&& 31).toUInt32).toInt32) &&& (3 : Int32))), .unset] [])) := fun tq kq => G969 tq (by
        refine XS.goto X968.here hx rfl (pc0 := 36) (pc' := 114) rfl (hb hby d18_36) (by decide) (by decide) ?_
        show Steps p.tables e below (T968.setTop (mkF m 114 #[.val (.ref d), .val (.ref in0), .val (.ref in1), .val (.int xx), .val (.int vv), .val (.int (((xx.toUInt32 >>> ((2 : Int32) &&& 31).toUInt32).toInt32) &&& (3 : Int32))), .unset] [])) _
        exact kq)
      have f971 := (own_domW dom962 W968 hord o11)
      have f972 := ((hin1.keep K962 (ninS (Ne.symm (show @Ne Nat m0 in1 by omega)) (ninS (Ne.symm (show @Ne Nat p0 in1 by omega)) (ninS (Ne.symm (show @Ne Nat siz in1 by omega)) nin0)))).other W968 (Ne.symm (show @Ne Nat in0 in1 by omega)))
      have hst' : Stp (own_up fsz 0 ((fsz 0) - (1 : Int32))) (own_sm fm0 (fp0 vv.toNatClampNeg) ((fsz 0) - (1 : Int32))) (own_sp fm0 fp0 (fp0 vv.toNatClampNeg) ((fsz 0) - (1 : Int32))) fm1 fp1 (own_up ju (vv).toNatClampNeg (0 : Int32)) jw := ⟨hr.2.2.2.2.1, hst.2.1, ⟨hr.2.1.1, hr.2.2.2.2.2.1⟩, hst.2.2.2.1, hr.2.2.2.2.2.2, hst.2.2.2.2.2⟩
      obtain ⟨fs, hr, hrun, hended, hW, hsame⟩ := X968.leave (v := none) (fun _ => rfl)
      refine ⟨_, _, (by rw [← hA0]; exact G970 _ (X968.returnOut hx Bd.returns (hb hby d18_114) hr)), hrun, hended, _, _, rfl, ?_, ⟨_, rfl⟩, hW, hsame.mono (by decide) (by decide)⟩
      show Qst Z d mem pos siz mrk m0 p0 k0 m1 p1 k1 rd fsz fm0 fp0 fk0 fm1 fp1 fk1 in0 in1 ki0 ki1 ju jw h0 n0 _ T968.heap _
      rw [e968]
      exact ⟨(own_up fsz 0 ((fsz 0) - (1 : Int32))), (own_sm fm0 (fp0 vv.toNatClampNeg) ((fsz 0) - (1 : Int32))), (own_sp fm0 fp0 (fp0 vv.toNatClampNeg) ((fsz 0) - (1 : Int32))), fm1, fp1, (own_up ju (vv).toNatClampNeg (0 : Int32)), jw, rfl, N968, (((Keep.refl h0 [siz, m0, p0, m1, p1, in0, in1]).trans K962 (allS (P := fun x => x ∈ [siz, m0, p0, m1, p1, in0, in1] ∨ h0.size ≤ x) (Or.inl (List.mem_of_getElem? (i := 1) rfl)) (allS (P := fun x => x ∈ [siz, m0, p0, m1, p1, in0, in1] ∨ h0.size ≤ x) (Or.inl (List.mem_of_getElem? (i := 2) rfl)) (allS (P := fun x => x ∈ [siz, m0, p0, m1, p1, in0, in1] ∨ h0.size ≤ x) (Or.inl (List.mem_of_getElem? (i := 0) rfl)) all0)))).wr W968 (Or.inl (List.mem_of_getElem? (i := 5) rfl))), f971, V968, f972, hst'⟩
  · have G973 : Go p e below A0 (s₁.setTop (mkF m 42 #[.val (.ref d), .val (.ref in0), .val (.ref in1), .val (.int xx), .val (.int vv), .val (.int (((xx.toUInt32 >>> ((2 : Int32) &&& 31).toUInt32).toInt32) &&& (3 : Int32))), .unset] [(.int (1 : Int32)), (.int (((xx.toUInt32 >>> ((2 : Int32) &&& 31).toUInt32).toInt32) &&& (3 : Int32)))])) := fun tq kq => G953 tq (by
      refine XS.ifYes X0.here hx rfl (pc0 := 14) (pc' := 39) rfl (hb hby d18_14) rfl ((if0 _ _).trans (feq hc954).2) (by decide) (by decide) ?_
      show Steps p.tables e below (s₁.setTop (mkF m 39 #[.val (.ref d), .val (.ref in0), .val (.ref in1), .val (.int xx), .val (.int vv), .val (.int (((xx.toUInt32 >>> ((2 : Int32) &&& 31).toUInt32).toInt32) &&& (3 : Int32))), .unset] [])) _
      refine XS.iload X0.here hx rfl (hb hby d18_39) rfl ?_
      show Steps p.tables e below (s₁.setTop (mkF m 41 #[.val (.ref d), .val (.ref in0), .val (.ref in1), .val (.int xx), .val (.int vv), .val (.int (((xx.toUInt32 >>> ((2 : Int32) &&& 31).toUInt32).toInt32) &&& (3 : Int32))), .unset] [(.int (((xx.toUInt32 >>> ((2 : Int32) &&& 31).toUInt32).toInt32) &&& (3 : Int32)))])) _
      refine XS.iconst X0.here hx rfl (hb hby d18_41) ?_
      show Steps p.tables e below (s₁.setTop (mkF m 42 #[.val (.ref d), .val (.ref in0), .val (.ref in1), .val (.int xx), .val (.int vv), .val (.int (((xx.toUInt32 >>> ((2 : Int32) &&& 31).toUInt32).toInt32) &&& (3 : Int32))), .unset] [(.int (1 : Int32)), (.int (((xx.toUInt32 >>> ((2 : Int32) &&& 31).toUInt32).toInt32) &&& (3 : Int32)))])) _
      exact kq)
    by_cases hc974 : (((xx.toUInt32 >>> ((2 : Int32) &&& 31).toUInt32).toInt32) &&& (3 : Int32)) = (1 : Int32)
    · have G975 : Go p e below A0 (s₁.setTop (mkF m 48 #[.val (.ref d), .val (.ref in0), .val (.ref in1), .val (.int xx), .val (.int vv), .val (.int (((xx.toUInt32 >>> ((2 : Int32) &&& 31).toUInt32).toInt32) &&& (3 : Int32))), .unset] [(.int vv), (.ref in0)])) := fun tq kq => G973 tq (by
        refine XS.icmpNo X0.here hx rfl (hb hby d18_42) rfl (teq hc974).2 ?_
        show Steps p.tables e below (s₁.setTop (mkF m 45 #[.val (.ref d), .val (.ref in0), .val (.ref in1), .val (.int xx), .val (.int vv), .val (.int (((xx.toUInt32 >>> ((2 : Int32) &&& 31).toUInt32).toInt32) &&& (3 : Int32))), .unset] [])) _
        refine XS.aloadN X0.here hx rfl (hb hby d18_45) rfl rfl ?_
        show Steps p.tables e below (s₁.setTop (mkF m 46 #[.val (.ref d), .val (.ref in0), .val (.ref in1), .val (.int xx), .val (.int vv), .val (.int (((xx.toUInt32 >>> ((2 : Int32) &&& 31).toUInt32).toInt32) &&& (3 : Int32))), .unset] [(.ref in0)])) _
        refine XS.iload X0.here hx rfl (hb hby d18_46) rfl ?_
        show Steps p.tables e below (s₁.setTop (mkF m 48 #[.val (.ref d), .val (.ref in0), .val (.ref in1), .val (.int xx), .val (.int vv), .val (.int (((xx.toUInt32 >>> ((2 : Int32) &&& 31).toUInt32).toInt32) &&& (3 : Int32))), .unset] [(.int vv), (.ref in0)])) _
        exact kq)
      obtain ⟨cl976, Ar976, q976, S976, M976, H976⟩ := id hin0
      have hi977 : ¬ (vv < 0 ∨ cl976.slots.size ≤ (vv).toNatClampNeg) := (inb_of S976 hvv)
      have G978 : Go p e below A0 (s₁.setTop (mkF m 49 #[.val (.ref d), .val (.ref in0), .val (.ref in1), .val (.int xx), .val (.int vv), .val (.int (((xx.toUInt32 >>> ((2 : Int32) &&& 31).toUInt32).toInt32) &&& (3 : Int32))), .unset] [(.int (ju (vv).toNatClampNeg))])) := fun tq kq => G975 tq (by
        refine X0.baloadBooleans hx (j := vv) (v := (.int (ju (vv).toNatClampNeg))) (by rw [e0]; exact Ar976.1) (State.isArrayOf_alike hZ.alike Ar976.2.1) Ar976.2.2 hi977 ((H976 _ (S976 ▸ Nat.lt_of_not_le fun y => hi977 (Or.inr y))).trans (congrArg some rfl)) (g := (mkF m 48 #[.val (.ref d), .val (.ref in0), .val (.ref in1), .val (.int xx), .val (.int vv), .val (.int (((xx.toUInt32 >>> ((2 : Int32) &&& 31).toUInt32).toInt32) &&& (3 : Int32))), .unset] [(.int vv), (.ref in0)])) rfl rfl (hb hby d18_48) _ ?_
        show Steps p.tables e below (s₁.setTop (mkF m 49 #[.val (.ref d), .val (.ref in0), .val (.ref in1), .val (.int xx), .val (.int vv), .val (.int (((xx.toUInt32 >>> ((2 : Int32) &&& 31).toUInt32).toInt32) &&& (3 : Int32))), .unset] [(.int (ju (vv).toNatClampNeg))])) _
        exact kq)
      by_cases hc979 : (ju (vv).toNatClampNeg) = (0 : Int32)
      · have G980 : Go p e below A0 (s₁.setTop (mkF m 114 #[.val (.ref d), .val (.ref in0), .val (.ref in1), .val (.int xx), .val (.int vv), .val (.int (((xx.toUInt32 >>> ((2 : Int32) &&& 31).toUInt32).toInt32) &&& (3 : Int32))), .unset] [])) := fun tq kq => G978 tq (by
          refine XS.ifYes X0.here hx rfl (pc0 := 49) (pc' := 114) rfl (hb hby d18_49) rfl ((if0 _ _).trans (teq hc979).1) (by decide) (by decide) ?_
          show Steps p.tables e below (s₁.setTop (mkF m 114 #[.val (.ref d), .val (.ref in0), .val (.ref in1), .val (.int xx), .val (.int vv), .val (.int (((xx.toUInt32 >>> ((2 : Int32) &&& 31).toUInt32).toInt32) &&& (3 : Int32))), .unset] [])) _
          exact kq)
        obtain ⟨fs, hr, hrun, hended, hW, hsame⟩ := X0.leave (v := none) (fun _ => rfl)
        refine ⟨_, _, (by rw [← hA0]; exact G980 _ (X0.returnOut hx Bd.returns (hb hby d18_114) hr)), hrun, hended, _, _, rfl, ?_, ⟨_, rfl⟩, hW, hsame.mono (by decide) (by decide)⟩
        show Qst Z d mem pos siz mrk m0 p0 k0 m1 p1 k1 rd fsz fm0 fp0 fk0 fm1 fp1 fk1 in0 in1 ki0 ki1 ju jw h0 n0 _ s₁.heap _
        rw [e0]
        exact ⟨fsz, fm0, fp0, fm1, fp1, ju, jw, rfl, N0, (Keep.refl h0 [siz, m0, p0, m1, p1, in0, in1]), hdom, hin0, hin1, hst⟩
      · have G981 : Go p e below A0 (s₁.setTop (mkF m 56 #[.val (.ref d), .val (.ref in0), .val (.ref in1), .val (.int xx), .val (.int vv), .val (.int (((xx.toUInt32 >>> ((2 : Int32) &&& 31).toUInt32).toInt32) &&& (3 : Int32))), .unset] [(.int vv), (.int (0 : Int32)), (.ref d)])) := fun tq kq => G978 tq (by
          refine XS.ifNo X0.here hx rfl (hb hby d18_49) rfl ((if0 _ _).trans (feq hc979).1) ?_
          show Steps p.tables e below (s₁.setTop (mkF m 52 #[.val (.ref d), .val (.ref in0), .val (.ref in1), .val (.int xx), .val (.int vv), .val (.int (((xx.toUInt32 >>> ((2 : Int32) &&& 31).toUInt32).toInt32) &&& (3 : Int32))), .unset] [])) _
          refine XS.aloadN X0.here hx rfl (hb hby d18_52) rfl rfl ?_
          show Steps p.tables e below (s₁.setTop (mkF m 53 #[.val (.ref d), .val (.ref in0), .val (.ref in1), .val (.int xx), .val (.int vv), .val (.int (((xx.toUInt32 >>> ((2 : Int32) &&& 31).toUInt32).toInt32) &&& (3 : Int32))), .unset] [(.ref d)])) _
          refine XS.iconst X0.here hx rfl (hb hby d18_53) ?_
          show Steps p.tables e below (s₁.setTop (mkF m 54 #[.val (.ref d), .val (.ref in0), .val (.ref in1), .val (.int xx), .val (.int vv), .val (.int (((xx.toUInt32 >>> ((2 : Int32) &&& 31).toUInt32).toInt32) &&& (3 : Int32))), .unset] [(.int (0 : Int32)), (.ref d)])) _
          refine XS.iload X0.here hx rfl (hb hby d18_54) rfl ?_
          show Steps p.tables e below (s₁.setTop (mkF m 56 #[.val (.ref d), .val (.ref in0), .val (.ref in1), .val (.int xx), .val (.int vv), .val (.int (((xx.toUInt32 >>> ((2 : Int32) &&& 31).toUInt32).toInt32) &&& (3 : Int32))), .unset] [(.int vv), (.int (0 : Int32)), (.ref d)])) _
          exact kq)
        have hr := own_as (n := 4) (z := (4 : Int32)) (by decide) (by decide) hst.1 hvv
        obtain ⟨cq982, kq982, q982a, q982b, q982c⟩ := isOf hZ e0 hdom.1
        obtain ⟨_, _, ⟨T982, L982, k982, n982⟩, -, X982, ⟨Lc982, hQ982, l982, y982, z982⟩, st982⟩ := X0.virtualBack hx (y := (⟨"com/example/ludarc/ludarc/engine/Domains", "assign", "(II)V"⟩ : MethodName)) (z := (⟨"com/example/ludarc/ludarc/engine/Domains", "assign", "(II)V"⟩ : MethodName)) hown (mvT hZ (hw _ (List.mem_of_getElem? (i := 160) rfl))) (mvT hZ (hw _ (List.mem_of_getElem? (i := 161) rfl))) (notFace_of_selects (args := #[]) (mvT hZ (hw _ (List.mem_of_getElem? (i := 163) rfl)))) (mvT hZ (hw _ (List.mem_of_getElem? (i := 163) rfl))) (mvT hZ (hw _ (List.mem_of_getElem? (i := 162) rfl))) (by decide) (backOf (W := 0) (rmA0 l Z a0 hw [] d mem pos siz mrk m0 p0 k0 m1 p1 k1 rd fsz fm0 fp0 fk0 fm1 fp1 fk1 vv h0 n0 Z0 hord hdom hvv hr.1 hr.2.1 hr.2.2.1 hr.2.2.2.1) hZ (hw _ (List.mem_of_getElem? (i := 164) rfl)) (hw _ (List.mem_of_getElem? (i := 86) rfl)) (by decide) (by decide)) q982a q982c (g := (mkF m 56 #[.val (.ref d), .val (.ref in0), .val (.ref in1), .val (.int xx), .val (.int vv), .val (.int (((xx.toUInt32 >>> ((2 : Int32) &&& 31).toUInt32).toInt32) &&& (3 : Int32))), .unset] [(.int vv), (.int (0 : Int32)), (.ref d)])) rfl (by rw [hml]; rfl) (Steps.refl _) (argsL := [(.int (0 : Int32)), (.int vv)]) (rest := []) (lenOf pd_9 rfl) rfl (by show 2 * 0 + _ ≤ _; exact Nat.le_of_eq rfl) (hb hby d18_56) (fun _ _ => ⟨rfl, e0, (by decide : 0 + 0 ≤ _), (by decide : 0 + 0 ≤ _)⟩)
        dsimp only [Pt.U, Pt.locs, Pt.cells, Pt.slots] at X982 l982 y982 z982 st982 hQ982
        obtain rfl : k982 = 0 := y982
        obtain rfl : n982 = 0 := z982
        obtain ⟨rfl, N982q, K982, dom982⟩ := hQ982
        have N982 : Fr n0 L982 := by rw [l982]; exact Fr.app N0 N982q
        have G983 : Go p e below A0 (T982.setTop (mkF m 59 #[.val (.ref d), .val (.ref in0), .val (.ref in1), .val (.int xx), .val (.int vv), .val (.int (((xx.toUInt32 >>> ((2 : Int32) &&& 31).toUInt32).toInt32) &&& (3 : Int32))), .unset] [])) := fun tq kq => G981 tq (st982.trans kq)
        have G984 : Go p e below A0 (T982.setTop (mkF m 62 #[.val (.ref d), .val (.ref in0), .val (.ref in1), .val (.int xx), .val (.int vv), .val (.int (((xx.toUInt32 >>> ((2 : Int32) &&& 31).toUInt32).toInt32) &&& (3 : Int32))), .unset] [(.int (0 : Int32)), (.int (0 : Int32)), (.ref in0)])) := fun tq kq => G983 tq (by
          refine XS.aloadN X982.here hx rfl (hb hby d18_59) rfl rfl ?_
          show Steps p.tables e below (T982.setTop (mkF m 60 #[.val (.ref d), .val (.ref in0), .val (.ref in1), .val (.int xx), .val (.int vv), .val (.int (((xx.toUInt32 >>> ((2 : Int32) &&& 31).toUInt32).toInt32) &&& (3 : Int32))), .unset] [(.ref in0)])) _
          refine XS.iconst X982.here hx rfl (hb hby d18_60) ?_
          show Steps p.tables e below (T982.setTop (mkF m 61 #[.val (.ref d), .val (.ref in0), .val (.ref in1), .val (.int xx), .val (.int vv), .val (.int (((xx.toUInt32 >>> ((2 : Int32) &&& 31).toUInt32).toInt32) &&& (3 : Int32))), .unset] [(.int (0 : Int32)), (.ref in0)])) _
          refine XS.iconst X982.here hx rfl (hb hby d18_61) ?_
          show Steps p.tables e below (T982.setTop (mkF m 62 #[.val (.ref d), .val (.ref in0), .val (.ref in1), .val (.int xx), .val (.int vv), .val (.int (((xx.toUInt32 >>> ((2 : Int32) &&& 31).toUInt32).toInt32) &&& (3 : Int32))), .unset] [(.int (0 : Int32)), (.int (0 : Int32)), (.ref in0)])) _
          exact kq)
        have f985 := (hin0.keep K982 (ninS (Ne.symm (show @Ne Nat m0 in0 by omega)) (ninS (Ne.symm (show @Ne Nat p0 in0 by omega)) (ninS (Ne.symm (show @Ne Nat siz in0 by omega)) nin0))))
        obtain ⟨cl986, Ar986, q986, S986, M986, H986⟩ := id f985
        have hi987 : ¬ ((0 : Int32) < 0 ∨ cl986.slots.size ≤ ((0 : Int32)).toNatClampNeg) := (inb_of S986 ⟨by decide, by decide⟩)
        obtain ⟨T988, h988, X988, e988, W988, st988⟩ := stZ X982 hx hZ rfl Ar986 (j := (0 : Int32)) hi987 (g := (mkF m 62 #[.val (.ref d), .val (.ref in0), .val (.ref in1), .val (.int xx), .val (.int vv), .val (.int (((xx.toUInt32 >>> ((2 : Int32) &&& 31).toUInt32).toInt32) &&& (3 : Int32))), .unset] [(.int (0 : Int32)), (.int (0 : Int32)), (.ref in0)])) rfl rfl (hb hby d18_62)
        rw [show nar .boolean (0 : Int32) = (0 : Int32) from by decide] at W988
        have N988 := Fr.snoc X988 N982 (show @LE.le Nat _ n0 in0 by omega)
        have V988 : Af Z h988 in0 ki0 .boolean (4 : Int32) (fun i => .int ((own_up ju 0 (0 : Int32)) i)) := (Af.set Ar986 q986 S986 M986 H986 W988 hi987).fn (fun j _ => own_upf _ _ _ _ rfl j)
        have G989 : Go p e below A0 (T988.setTop (mkF m 63 #[.val (.ref d), .val (.ref in0), .val (.ref in1), .val (.int xx), .val (.int vv), .val (.int (((xx.toUInt32 >>> ((2 : Int32) &&& 31).toUInt32).toInt32) &&& (3 : Int32))), .unset] [])) := fun tq kq => G984 tq (st988 _ kq)
        have G990 : Go p e below A0 (T988.setTop (mkF m 66 #[.val (.ref d), .val (.ref in0), .val (.ref in1), .val (.int xx), .val (.int vv), .val (.int (((xx.toUInt32 >>> ((2 : Int32) &&& 31).toUInt32).toInt32) &&& (3 : Int32))), .unset] [(.int (0 : Int32)), (.int (1 : Int32)), (.ref in0)])) := fun tq kq => G989 tq (by
          refine XS.aloadN X988.here hx rfl (hb hby d18_63) rfl rfl ?_
          show Steps p.tables e below (T988.setTop (mkF m 64 #[.val (.ref d), .val (.ref in0), .val (.ref in1), .val (.int xx), .val (.int vv), .val (.int (((xx.toUInt32 >>> ((2 : Int32) &&& 31).toUInt32).toInt32) &&& (3 : Int32))), .unset] [(.ref in0)])) _
          refine XS.iconst X988.here hx rfl (hb hby d18_64) ?_
          show Steps p.tables e below (T988.setTop (mkF m 65 #[.val (.ref d), .val (.ref in0), .val (.ref in1), .val (.int xx), .val (.int vv), .val (.int (((xx.toUInt32 >>> ((2 : Int32) &&& 31).toUInt32).toInt32) &&& (3 : Int32))), .unset] [(.int (1 : Int32)), (.ref in0)])) _
          refine XS.iconst X988.here hx rfl (hb hby d18_65) ?_
          show Steps p.tables e below (T988.setTop (mkF m 66 #[.val (.ref d), .val (.ref in0), .val (.ref in1), .val (.int xx), .val (.int vv), .val (.int (((xx.toUInt32 >>> ((2 : Int32) &&& 31).toUInt32).toInt32) &&& (3 : Int32))), .unset] [(.int (0 : Int32)), (.int (1 : Int32)), (.ref in0)])) _
          exact kq)
        obtain ⟨cl991, Ar991, q991, S991, M991, H991⟩ := id V988
        have hi992 : ¬ ((1 : Int32) < 0 ∨ cl991.slots.size ≤ ((1 : Int32)).toNatClampNeg) := (inb_of S991 ⟨by decide, by decide⟩)
        obtain ⟨T993, h993, X993, e993, W993, st993⟩ := stZ X988 hx hZ e988 Ar991 (j := (1 : Int32)) hi992 (g := (mkF m 66 #[.val (.ref d), .val (.ref in0), .val (.ref in1), .val (.int xx), .val (.int vv), .val (.int (((xx.toUInt32 >>> ((2 : Int32) &&& 31).toUInt32).toInt32) &&& (3 : Int32))), .unset] [(.int (0 : Int32)), (.int (1 : Int32)), (.ref in0)])) rfl rfl (hb hby d18_66)
        rw [show nar .boolean (0 : Int32) = (0 : Int32) from by decide] at W993
        have N993 := Fr.snoc X993 N988 (show @LE.le Nat _ n0 in0 by omega)
        have V993 : Af Z h993 in0 ki0 .boolean (4 : Int32) (fun i => .int ((own_up (own_up ju 0 (0 : Int32)) 1 (0 : Int32)) i)) := (Af.set Ar991 q991 S991 M991 H991 W993 hi992).fn (fun j _ => own_upf _ _ _ _ rfl j)
        have G994 : Go p e below A0 (T993.setTop (mkF m 67 #[.val (.ref d), .val (.ref in0), .val (.ref in1), .val (.int xx), .val (.int vv), .val (.int (((xx.toUInt32 >>> ((2 : Int32) &&& 31).toUInt32).toInt32) &&& (3 : Int32))), .unset] [])) := fun tq kq => G990 tq (st993 _ kq)
        have G995 : Go p e below A0 (T993.setTop (mkF m 70 #[.val (.ref d), .val (.ref in0), .val (.ref in1), .val (.int xx), .val (.int vv), .val (.int (((xx.toUInt32 >>> ((2 : Int32) &&& 31).toUInt32).toInt32) &&& (3 : Int32))), .unset] [(.int (0 : Int32)), (.int (2 : Int32)), (.ref in0)])) := fun tq kq => G994 tq (by
          refine XS.aloadN X993.here hx rfl (hb hby d18_67) rfl rfl ?_
          show Steps p.tables e below (T993.setTop (mkF m 68 #[.val (.ref d), .val (.ref in0), .val (.ref in1), .val (.int xx), .val (.int vv), .val (.int (((xx.toUInt32 >>> ((2 : Int32) &&& 31).toUInt32).toInt32) &&& (3 : Int32))), .unset] [(.ref in0)])) _
          refine XS.iconst X993.here hx rfl (hb hby d18_68) ?_
          show Steps p.tables e below (T993.setTop (mkF m 69 #[.val (.ref d), .val (.ref in0), .val (.ref in1), .val (.int xx), .val (.int vv), .val (.int (((xx.toUInt32 >>> ((2 : Int32) &&& 31).toUInt32).toInt32) &&& (3 : Int32))), .unset] [(.int (2 : Int32)), (.ref in0)])) _
          refine XS.iconst X993.here hx rfl (hb hby d18_69) ?_
          show Steps p.tables e below (T993.setTop (mkF m 70 #[.val (.ref d), .val (.ref in0), .val (.ref in1), .val (.int xx), .val (.int vv), .val (.int (((xx.toUInt32 >>> ((2 : Int32) &&& 31).toUInt32).toInt32) &&& (3 : Int32))), .unset] [(.int (0 : Int32)), (.int (2 : Int32)), (.ref in0)])) _
          exact kq)
        obtain ⟨cl996, Ar996, q996, S996, M996, H996⟩ := id V993
        have hi997 : ¬ ((2 : Int32) < 0 ∨ cl996.slots.size ≤ ((2 : Int32)).toNatClampNeg) := (inb_of S996 ⟨by decide, by decide⟩)
        obtain ⟨T998, h998, X998, e998, W998, st998⟩ := stZ X993 hx hZ e993 Ar996 (j := (2 : Int32)) hi997 (g := (mkF m 70 #[.val (.ref d), .val (.ref in0), .val (.ref in1), .val (.int xx), .val (.int vv), .val (.int (((xx.toUInt32 >>> ((2 : Int32) &&& 31).toUInt32).toInt32) &&& (3 : Int32))), .unset] [(.int (0 : Int32)), (.int (2 : Int32)), (.ref in0)])) rfl rfl (hb hby d18_70)
        rw [show nar .boolean (0 : Int32) = (0 : Int32) from by decide] at W998
        have N998 := Fr.snoc X998 N993 (show @LE.le Nat _ n0 in0 by omega)
        have V998 : Af Z h998 in0 ki0 .boolean (4 : Int32) (fun i => .int ((own_up (own_up (own_up ju 0 (0 : Int32)) 1 (0 : Int32)) 2 (0 : Int32)) i)) := (Af.set Ar996 q996 S996 M996 H996 W998 hi997).fn (fun j _ => own_upf _ _ _ _ rfl j)
        have G999 : Go p e below A0 (T998.setTop (mkF m 71 #[.val (.ref d), .val (.ref in0), .val (.ref in1), .val (.int xx), .val (.int vv), .val (.int (((xx.toUInt32 >>> ((2 : Int32) &&& 31).toUInt32).toInt32) &&& (3 : Int32))), .unset] [])) := fun tq kq => G995 tq (st998 _ kq)
        have G1000 : Go p e below A0 (T998.setTop (mkF m 74 #[.val (.ref d), .val (.ref in0), .val (.ref in1), .val (.int xx), .val (.int vv), .val (.int (((xx.toUInt32 >>> ((2 : Int32) &&& 31).toUInt32).toInt32) &&& (3 : Int32))), .unset] [(.int (0 : Int32)), (.int (3 : Int32)), (.ref in0)])) := fun tq kq => G999 tq (by
          refine XS.aloadN X998.here hx rfl (hb hby d18_71) rfl rfl ?_
          show Steps p.tables e below (T998.setTop (mkF m 72 #[.val (.ref d), .val (.ref in0), .val (.ref in1), .val (.int xx), .val (.int vv), .val (.int (((xx.toUInt32 >>> ((2 : Int32) &&& 31).toUInt32).toInt32) &&& (3 : Int32))), .unset] [(.ref in0)])) _
          refine XS.iconst X998.here hx rfl (hb hby d18_72) ?_
          show Steps p.tables e below (T998.setTop (mkF m 73 #[.val (.ref d), .val (.ref in0), .val (.ref in1), .val (.int xx), .val (.int vv), .val (.int (((xx.toUInt32 >>> ((2 : Int32) &&& 31).toUInt32).toInt32) &&& (3 : Int32))), .unset] [(.int (3 : Int32)), (.ref in0)])) _
          refine XS.iconst X998.here hx rfl (hb hby d18_73) ?_
          show Steps p.tables e below (T998.setTop (mkF m 74 #[.val (.ref d), .val (.ref in0), .val (.ref in1), .val (.int xx), .val (.int vv), .val (.int (((xx.toUInt32 >>> ((2 : Int32) &&& 31).toUInt32).toInt32) &&& (3 : Int32))), .unset] [(.int (0 : Int32)), (.int (3 : Int32)), (.ref in0)])) _
          exact kq)
        obtain ⟨cl1001, Ar1001, q1001, S1001, M1001, H1001⟩ := id V998
        have hi1002 : ¬ ((3 : Int32) < 0 ∨ cl1001.slots.size ≤ ((3 : Int32)).toNatClampNeg) := (inb_of S1001 ⟨by decide, by decide⟩)
        obtain ⟨T1003, h1003, X1003, e1003, W1003, st1003⟩ := stZ X998 hx hZ e998 Ar1001 (j := (3 : Int32)) hi1002 (g := (mkF m 74 #[.val (.ref d), .val (.ref in0), .val (.ref in1), .val (.int xx), .val (.int vv), .val (.int (((xx.toUInt32 >>> ((2 : Int32) &&& 31).toUInt32).toInt32) &&& (3 : Int32))), .unset] [(.int (0 : Int32)), (.int (3 : Int32)), (.ref in0)])) rfl rfl (hb hby d18_74)
        rw [show nar .boolean (0 : Int32) = (0 : Int32) from by decide] at W1003
        have N1003 := Fr.snoc X1003 N998 (show @LE.le Nat _ n0 in0 by omega)
        have V1003 : Af Z h1003 in0 ki0 .boolean (4 : Int32) (fun i => .int ((own_up (own_up (own_up (own_up ju 0 (0 : Int32)) 1 (0 : Int32)) 2 (0 : Int32)) 3 (0 : Int32)) i)) := (Af.set Ar1001 q1001 S1001 M1001 H1001 W1003 hi1002).fn (fun j _ => own_upf _ _ _ _ rfl j)
        have G1004 : Go p e below A0 (T1003.setTop (mkF m 75 #[.val (.ref d), .val (.ref in0), .val (.ref in1), .val (.int xx), .val (.int vv), .val (.int (((xx.toUInt32 >>> ((2 : Int32) &&& 31).toUInt32).toInt32) &&& (3 : Int32))), .unset] [])) := fun tq kq => G1000 tq (st1003 _ kq)
        have G1005 : Go p e below A0 (T1003.setTop (mkF m 79 #[.val (.ref d), .val (.ref in0), .val (.ref in1), .val (.int xx), .val (.int vv), .val (.int (((xx.toUInt32 >>> ((2 : Int32) &&& 31).toUInt32).toInt32) &&& (3 : Int32))), .unset] [(.int (1 : Int32)), (.int vv), (.ref in0)])) := fun tq kq => G1004 tq (by
          refine XS.aloadN X1003.here hx rfl (hb hby d18_75) rfl rfl ?_
          show Steps p.tables e below (T1003.setTop (mkF m 76 #[.val (.ref d), .val (.ref in0), .val (.ref in1), .val (.int xx), .val (.int vv), .val (.int (((xx.toUInt32 >>> ((2 : Int32) &&& 31).toUInt32).toInt32) &&& (3 : Int32))), .unset] [(.ref in0)])) _
          refine XS.iload X1003.here hx rfl (hb hby d18_76) rfl ?_
          show Steps p.tables e below (T1003.setTop (mkF m 78 #[.val (.ref d), .val (.ref in0), .val (.ref in1), .val (.int xx), .val (.int vv), .val (.int (((xx.toUInt32 >>> ((2 : Int32) &&& 31).toUInt32).toInt32) &&& (3 : Int32))), .unset] [(.int vv), (.ref in0)])) _
          refine XS.iconst X1003.here hx rfl (hb hby d18_78) ?_
          show Steps p.tables e below (T1003.setTop (mkF m 79 #[.val (.ref d), .val (.ref in0), .val (.ref in1), .val (.int xx), .val (.int vv), .val (.int (((xx.toUInt32 >>> ((2 : Int32) &&& 31).toUInt32).toInt32) &&& (3 : Int32))), .unset] [(.int (1 : Int32)), (.int vv), (.ref in0)])) _
          exact kq)
        obtain ⟨cl1006, Ar1006, q1006, S1006, M1006, H1006⟩ := id V1003
        have hi1007 : ¬ (vv < 0 ∨ cl1006.slots.size ≤ (vv).toNatClampNeg) := (inb_of S1006 hvv)
        obtain ⟨T1008, h1008, X1008, e1008, W1008, st1008⟩ := stZ X1003 hx hZ e1003 Ar1006 (j := vv) hi1007 (g := (mkF m 79 #[.val (.ref d), .val (.ref in0), .val (.ref in1), .val (.int xx), .val (.int vv), .val (.int (((xx.toUInt32 >>> ((2 : Int32) &&& 31).toUInt32).toInt32) &&& (3 : Int32))), .unset] [(.int (1 : Int32)), (.int vv), (.ref in0)])) rfl rfl (hb hby d18_79)
        rw [show nar .boolean (1 : Int32) = (1 : Int32) from by decide] at W1008
        have N1008 := Fr.snoc X1008 N1003 (show @LE.le Nat _ n0 in0 by omega)
        have V1008 : Af Z h1008 in0 ki0 .boolean (4 : Int32) (fun i => .int ((own_up (own_up (own_up (own_up (own_up ju 0 (0 : Int32)) 1 (0 : Int32)) 2 (0 : Int32)) 3 (0 : Int32)) (vv).toNatClampNeg (1 : Int32)) i)) := (Af.set Ar1006 q1006 S1006 M1006 H1006 W1008 hi1007).fn (fun j _ => own_upf _ _ _ _ rfl j)
        have G1009 : Go p e below A0 (T1008.setTop (mkF m 80 #[.val (.ref d), .val (.ref in0), .val (.ref in1), .val (.int xx), .val (.int vv), .val (.int (((xx.toUInt32 >>> ((2 : Int32) &&& 31).toUInt32).toInt32) &&& (3 : Int32))), .unset] [])) := fun tq kq => G1005 tq (st1008 _ kq)
        have G1010 : Go p e below A0 (T1008.setTop (mkF m 114 #[.val (.ref d), .val (.ref in0), .val (.ref in1), .val (.int xx), .val (.int vv), .val (.int (((xx.toUInt32 >>> ((2 : Int32) &&& 31).toUInt32).toInt32) &&& (3 : Int32))), .unset] [])) := fun tq kq => G1009 tq (by
          refine XS.goto X1008.here hx rfl (pc0 := 80) (pc' := 114) rfl (hb hby d18_80) (by decide) (by decide) ?_
          show Steps p.tables e below (T1008.setTop (mkF m 114 #[.val (.ref d), .val (.ref in0), .val (.ref in1), .val (.int xx), .val (.int vv), .val (.int (((xx.toUInt32 >>> ((2 : Int32) &&& 31).toUInt32).toInt32) &&& (3 : Int32))), .unset] [])) _
          exact kq)
        have f1011 := (own_domW (own_domW (own_domW (own_domW (own_domW dom982 W988 hord o11) W993 hord o11) W998 hord o11) W1003 hord o11) W1008 hord o11)
        have f1012 := ((((((hin1.keep K982 (ninS (Ne.symm (show @Ne Nat m0 in1 by omega)) (ninS (Ne.symm (show @Ne Nat p0 in1 by omega)) (ninS (Ne.symm (show @Ne Nat siz in1 by omega)) nin0)))).other W988 (Ne.symm (show @Ne Nat in0 in1 by omega))).other W993 (Ne.symm (show @Ne Nat in0 in1 by omega))).other W998 (Ne.symm (show @Ne Nat in0 in1 by omega))).other W1003 (Ne.symm (show @Ne Nat in0 in1 by omega))).other W1008 (Ne.symm (show @Ne Nat in0 in1 by omega)))
        have hst' : Stp (own_up fsz 0 (1 : Int32)) (own_sm fm0 (fp0 vv.toNatClampNeg) (0 : Int32)) (own_sp fm0 fp0 (fp0 vv.toNatClampNeg) (0 : Int32)) fm1 fp1 (own_up (own_up (own_up (own_up (own_up ju 0 (0 : Int32)) 1 (0 : Int32)) 2 (0 : Int32)) 3 (0 : Int32)) (vv).toNatClampNeg (1 : Int32)) jw := ⟨hr.2.2.2.2.1, hst.2.1, ⟨(by decide : ¬ (1 : Int32) < 0), (by decide : (1 : Int32).toNatClampNeg ≤ 4)⟩, hst.2.2.2.1, fun i hi => (own_five ju _ i hi).trans (hr.2.2.2.2.2 i hi), hst.2.2.2.2.2⟩
        obtain ⟨fs, hr, hrun, hended, hW, hsame⟩ := X1008.leave (v := none) (fun _ => rfl)
        refine ⟨_, _, (by rw [← hA0]; exact G1010 _ (X1008.returnOut hx Bd.returns (hb hby d18_114) hr)), hrun, hended, _, _, rfl, ?_, ⟨_, rfl⟩, hW, hsame.mono (by decide) (by decide)⟩
        show Qst Z d mem pos siz mrk m0 p0 k0 m1 p1 k1 rd fsz fm0 fp0 fk0 fm1 fp1 fk1 in0 in1 ki0 ki1 ju jw h0 n0 _ T1008.heap _
        rw [e1008]
        exact ⟨(own_up fsz 0 (1 : Int32)), (own_sm fm0 (fp0 vv.toNatClampNeg) (0 : Int32)), (own_sp fm0 fp0 (fp0 vv.toNatClampNeg) (0 : Int32)), fm1, fp1, (own_up (own_up (own_up (own_up (own_up ju 0 (0 : Int32)) 1 (0 : Int32)) 2 (0 : Int32)) 3 (0 : Int32)) (vv).toNatClampNeg (1 : Int32)), jw, rfl, N1008, (((((((Keep.refl h0 [siz, m0, p0, m1, p1, in0, in1]).trans K982 (allS (P := fun x => x ∈ [siz, m0, p0, m1, p1, in0, in1] ∨ h0.size ≤ x) (Or.inl (List.mem_of_getElem? (i := 1) rfl)) (allS (P := fun x => x ∈ [siz, m0, p0, m1, p1, in0, in1] ∨ h0.size ≤ x) (Or.inl (List.mem_of_getElem? (i := 2) rfl)) (allS (P := fun x => x ∈ [siz, m0, p0, m1, p1, in0, in1] ∨ h0.size ≤ x) (Or.inl (List.mem_of_getElem? (i := 0) rfl)) all0)))).wr W988 (Or.inl (List.mem_of_getElem? (i := 5) rfl))).wr W993 (Or.inl (List.mem_of_getElem? (i := 5) rfl))).wr W998 (Or.inl (List.mem_of_getElem? (i := 5) rfl))).wr W1003 (Or.inl (List.mem_of_getElem? (i := 5) rfl))).wr W1008 (Or.inl (List.mem_of_getElem? (i := 5) rfl))), f1011, V1008, f1012, hst'⟩
    · have G1013 : Go p e below A0 (s₁.setTop (mkF m 86 #[.val (.ref d), .val (.ref in0), .val (.ref in1), .val (.int xx), .val (.int vv), .val (.int (((xx.toUInt32 >>> ((2 : Int32) &&& 31).toUInt32).toInt32) &&& (3 : Int32))), .unset] [(.int (2 : Int32)), (.int (((xx.toUInt32 >>> ((2 : Int32) &&& 31).toUInt32).toInt32) &&& (3 : Int32)))])) := fun tq kq => G973 tq (by
        refine XS.icmpYes X0.here hx rfl (pc0 := 42) (pc' := 83) rfl (hb hby d18_42) rfl (feq hc974).2 (by decide) (by decide) ?_
        show Steps p.tables e below (s₁.setTop (mkF m 83 #[.val (.ref d), .val (.ref in0), .val (.ref in1), .val (.int xx), .val (.int vv), .val (.int (((xx.toUInt32 >>> ((2 : Int32) &&& 31).toUInt32).toInt32) &&& (3 : Int32))), .unset] [])) _
        refine XS.iload X0.here hx rfl (hb hby d18_83) rfl ?_
        show Steps p.tables e below (s₁.setTop (mkF m 85 #[.val (.ref d), .val (.ref in0), .val (.ref in1), .val (.int xx), .val (.int vv), .val (.int (((xx.toUInt32 >>> ((2 : Int32) &&& 31).toUInt32).toInt32) &&& (3 : Int32))), .unset] [(.int (((xx.toUInt32 >>> ((2 : Int32) &&& 31).toUInt32).toInt32) &&& (3 : Int32)))])) _
        refine XS.iconst X0.here hx rfl (hb hby d18_85) ?_
        show Steps p.tables e below (s₁.setTop (mkF m 86 #[.val (.ref d), .val (.ref in0), .val (.ref in1), .val (.int xx), .val (.int vv), .val (.int (((xx.toUInt32 >>> ((2 : Int32) &&& 31).toUInt32).toInt32) &&& (3 : Int32))), .unset] [(.int (2 : Int32)), (.int (((xx.toUInt32 >>> ((2 : Int32) &&& 31).toUInt32).toInt32) &&& (3 : Int32)))])) _
        exact kq)
      by_cases hc1014 : (((xx.toUInt32 >>> ((2 : Int32) &&& 31).toUInt32).toInt32) &&& (3 : Int32)) = (2 : Int32)
      · have G1015 : Go p e below A0 (s₁.setTop (mkF m 89 #[.val (.ref d), .val (.ref in0), .val (.ref in1), .val (.int xx), .val (.int vv), .val (.int (((xx.toUInt32 >>> ((2 : Int32) &&& 31).toUInt32).toInt32) &&& (3 : Int32))), .unset] [])) := fun tq kq => G1013 tq (by
          refine XS.icmpNo X0.here hx rfl (hb hby d18_86) rfl (teq hc1014).2 ?_
          show Steps p.tables e below (s₁.setTop (mkF m 89 #[.val (.ref d), .val (.ref in0), .val (.ref in1), .val (.int xx), .val (.int vv), .val (.int (((xx.toUInt32 >>> ((2 : Int32) &&& 31).toUInt32).toInt32) &&& (3 : Int32))), .unset] [])) _
          exact kq)
        obtain ⟨ww, hG1016, G1016⟩ : ∃ (ww : Int32), (¬ ww < (0 : Int32) ∧ ww < (2 : Int32)) ∧ Go p e below A0 (s₁.setTop (mkF m 95 #[.val (.ref d), .val (.ref in0), .val (.ref in1), .val (.int xx), .val (.int vv), .val (.int (((xx.toUInt32 >>> ((2 : Int32) &&& 31).toUInt32).toInt32) &&& (3 : Int32))), .val (.int ww)] [])) := by
          have G1017 : Go p e below A0 (s₁.setTop (mkF m 95 #[.val (.ref d), .val (.ref in0), .val (.ref in1), .val (.int xx), .val (.int vv), .val (.int (((xx.toUInt32 >>> ((2 : Int32) &&& 31).toUInt32).toInt32) &&& (3 : Int32))), .val (.int (vv &&& (1 : Int32)))] [])) := fun tq kq => G1015 tq (by
            refine XS.iload X0.here hx rfl (hb hby d18_89) rfl ?_
            show Steps p.tables e below (s₁.setTop (mkF m 91 #[.val (.ref d), .val (.ref in0), .val (.ref in1), .val (.int xx), .val (.int vv), .val (.int (((xx.toUInt32 >>> ((2 : Int32) &&& 31).toUInt32).toInt32) &&& (3 : Int32))), .unset] [(.int vv)])) _
            refine XS.iconst X0.here hx rfl (hb hby d18_91) ?_
            show Steps p.tables e below (s₁.setTop (mkF m 92 #[.val (.ref d), .val (.ref in0), .val (.ref in1), .val (.int xx), .val (.int vv), .val (.int (((xx.toUInt32 >>> ((2 : Int32) &&& 31).toUInt32).toInt32) &&& (3 : Int32))), .unset] [(.int (1 : Int32)), (.int vv)])) _
            refine XS.iand X0.here hx rfl (hb hby d18_92) rfl ?_
            show Steps p.tables e below (s₁.setTop (mkF m 93 #[.val (.ref d), .val (.ref in0), .val (.ref in1), .val (.int xx), .val (.int vv), .val (.int (((xx.toUInt32 >>> ((2 : Int32) &&& 31).toUInt32).toInt32) &&& (3 : Int32))), .unset] [(.int (vv &&& (1 : Int32)))])) _
            refine XS.istore X0.here hx rfl (hb hby d18_93) rfl (l' := #[.val (.ref d), .val (.ref in0), .val (.ref in1), .val (.int xx), .val (.int vv), .val (.int (((xx.toUInt32 >>> ((2 : Int32) &&& 31).toUInt32).toInt32) &&& (3 : Int32))), .val (.int (vv &&& (1 : Int32)))]) rfl ?_
            show Steps p.tables e below (s₁.setTop (mkF m 95 #[.val (.ref d), .val (.ref in0), .val (.ref in1), .val (.int xx), .val (.int vv), .val (.int (((xx.toUInt32 >>> ((2 : Int32) &&& 31).toUInt32).toInt32) &&& (3 : Int32))), .val (.int (vv &&& (1 : Int32)))] [])) _
            exact kq)
          exact ⟨(vv &&& (1 : Int32)), (by exact own_and1 vv), G1017⟩
        have hww := hG1016
        have G1018 : Go p e below A0 (s₁.setTop (mkF m 98 #[.val (.ref d), .val (.ref in0), .val (.ref in1), .val (.int xx), .val (.int vv), .val (.int (((xx.toUInt32 >>> ((2 : Int32) &&& 31).toUInt32).toInt32) &&& (3 : Int32))), .val (.int ww)] [(.int ww), (.ref in1)])) := fun tq kq => G1016 tq (by
          refine XS.aloadN X0.here hx rfl (hb hby d18_95) rfl rfl ?_
          show Steps p.tables e below (s₁.setTop (mkF m 96 #[.val (.ref d), .val (.ref in0), .val (.ref in1), .val (.int xx), .val (.int vv), .val (.int (((xx.toUInt32 >>> ((2 : Int32) &&& 31).toUInt32).toInt32) &&& (3 : Int32))), .val (.int ww)] [(.ref in1)])) _
          refine XS.iload X0.here hx rfl (hb hby d18_96) rfl ?_
          show Steps p.tables e below (s₁.setTop (mkF m 98 #[.val (.ref d), .val (.ref in0), .val (.ref in1), .val (.int xx), .val (.int vv), .val (.int (((xx.toUInt32 >>> ((2 : Int32) &&& 31).toUInt32).toInt32) &&& (3 : Int32))), .val (.int ww)] [(.int ww), (.ref in1)])) _
          exact kq)
        obtain ⟨cl1019, Ar1019, q1019, S1019, M1019, H1019⟩ := id hin1
        have hi1020 : ¬ (ww < 0 ∨ cl1019.slots.size ≤ (ww).toNatClampNeg) := (inb_of S1019 hww)
        have G1021 : Go p e below A0 (s₁.setTop (mkF m 99 #[.val (.ref d), .val (.ref in0), .val (.ref in1), .val (.int xx), .val (.int vv), .val (.int (((xx.toUInt32 >>> ((2 : Int32) &&& 31).toUInt32).toInt32) &&& (3 : Int32))), .val (.int ww)] [(.int (jw (ww).toNatClampNeg))])) := fun tq kq => G1018 tq (by
          refine X0.baloadBooleans hx (j := ww) (v := (.int (jw (ww).toNatClampNeg))) (by rw [e0]; exact Ar1019.1) (State.isArrayOf_alike hZ.alike Ar1019.2.1) Ar1019.2.2 hi1020 ((H1019 _ (S1019 ▸ Nat.lt_of_not_le fun y => hi1020 (Or.inr y))).trans (congrArg some rfl)) (g := (mkF m 98 #[.val (.ref d), .val (.ref in0), .val (.ref in1), .val (.int xx), .val (.int vv), .val (.int (((xx.toUInt32 >>> ((2 : Int32) &&& 31).toUInt32).toInt32) &&& (3 : Int32))), .val (.int ww)] [(.int ww), (.ref in1)])) rfl rfl (hb hby d18_98) _ ?_
          show Steps p.tables e below (s₁.setTop (mkF m 99 #[.val (.ref d), .val (.ref in0), .val (.ref in1), .val (.int xx), .val (.int vv), .val (.int (((xx.toUInt32 >>> ((2 : Int32) &&& 31).toUInt32).toInt32) &&& (3 : Int32))), .val (.int ww)] [(.int (jw (ww).toNatClampNeg))])) _
          exact kq)
        by_cases hc1022 : (jw (ww).toNatClampNeg) = (0 : Int32)
        · have G1023 : Go p e below A0 (s₁.setTop (mkF m 114 #[.val (.ref d), .val (.ref in0), .val (.ref in1), .val (.int xx), .val (.int vv), .val (.int (((xx.toUInt32 >>> ((2 : Int32) &&& 31).toUInt32).toInt32) &&& (3 : Int32))), .val (.int ww)] [])) := fun tq kq => G1021 tq (by
            refine XS.ifYes X0.here hx rfl (pc0 := 99) (pc' := 114) rfl (hb hby d18_99) rfl ((if0 _ _).trans (teq hc1022).1) (by decide) (by decide) ?_
            show Steps p.tables e below (s₁.setTop (mkF m 114 #[.val (.ref d), .val (.ref in0), .val (.ref in1), .val (.int xx), .val (.int vv), .val (.int (((xx.toUInt32 >>> ((2 : Int32) &&& 31).toUInt32).toInt32) &&& (3 : Int32))), .val (.int ww)] [])) _
            exact kq)
          obtain ⟨fs, hr, hrun, hended, hW, hsame⟩ := X0.leave (v := none) (fun _ => rfl)
          refine ⟨_, _, (by rw [← hA0]; exact G1023 _ (X0.returnOut hx Bd.returns (hb hby d18_114) hr)), hrun, hended, _, _, rfl, ?_, ⟨_, rfl⟩, hW, hsame.mono (by decide) (by decide)⟩
          show Qst Z d mem pos siz mrk m0 p0 k0 m1 p1 k1 rd fsz fm0 fp0 fk0 fm1 fp1 fk1 in0 in1 ki0 ki1 ju jw h0 n0 _ s₁.heap _
          rw [e0]
          exact ⟨fsz, fm0, fp0, fm1, fp1, ju, jw, rfl, N0, (Keep.refl h0 [siz, m0, p0, m1, p1, in0, in1]), hdom, hin0, hin1, hst⟩
        · have G1024 : Go p e below A0 (s₁.setTop (mkF m 106 #[.val (.ref d), .val (.ref in0), .val (.ref in1), .val (.int xx), .val (.int vv), .val (.int (((xx.toUInt32 >>> ((2 : Int32) &&& 31).toUInt32).toInt32) &&& (3 : Int32))), .val (.int ww)] [(.int ww), (.int (1 : Int32)), (.ref d)])) := fun tq kq => G1021 tq (by
            refine XS.ifNo X0.here hx rfl (hb hby d18_99) rfl ((if0 _ _).trans (feq hc1022).1) ?_
            show Steps p.tables e below (s₁.setTop (mkF m 102 #[.val (.ref d), .val (.ref in0), .val (.ref in1), .val (.int xx), .val (.int vv), .val (.int (((xx.toUInt32 >>> ((2 : Int32) &&& 31).toUInt32).toInt32) &&& (3 : Int32))), .val (.int ww)] [])) _
            refine XS.aloadN X0.here hx rfl (hb hby d18_102) rfl rfl ?_
            show Steps p.tables e below (s₁.setTop (mkF m 103 #[.val (.ref d), .val (.ref in0), .val (.ref in1), .val (.int xx), .val (.int vv), .val (.int (((xx.toUInt32 >>> ((2 : Int32) &&& 31).toUInt32).toInt32) &&& (3 : Int32))), .val (.int ww)] [(.ref d)])) _
            refine XS.iconst X0.here hx rfl (hb hby d18_103) ?_
            show Steps p.tables e below (s₁.setTop (mkF m 104 #[.val (.ref d), .val (.ref in0), .val (.ref in1), .val (.int xx), .val (.int vv), .val (.int (((xx.toUInt32 >>> ((2 : Int32) &&& 31).toUInt32).toInt32) &&& (3 : Int32))), .val (.int ww)] [(.int (1 : Int32)), (.ref d)])) _
            refine XS.iload X0.here hx rfl (hb hby d18_104) rfl ?_
            show Steps p.tables e below (s₁.setTop (mkF m 106 #[.val (.ref d), .val (.ref in0), .val (.ref in1), .val (.int xx), .val (.int vv), .val (.int (((xx.toUInt32 >>> ((2 : Int32) &&& 31).toUInt32).toInt32) &&& (3 : Int32))), .val (.int ww)] [(.int ww), (.int (1 : Int32)), (.ref d)])) _
            exact kq)
          have hr := own_rm (n := 2) (z := (2 : Int32)) (by decide) hst.2.1 hst.2.2.2.1.1 hst.2.2.2.1.2 hst.2.2.2.2.2 hww hc1022
          obtain ⟨cq1025, kq1025, q1025a, q1025b, q1025c⟩ := isOf hZ e0 hdom.1
          obtain ⟨_, _, ⟨T1025, L1025, k1025, n1025⟩, -, X1025, ⟨Lc1025, hQ1025, l1025, y1025, z1025⟩, st1025⟩ := X0.virtualBack hx (y := (⟨"com/example/ludarc/ludarc/engine/Domains", "remove", "(II)V"⟩ : MethodName)) (z := (⟨"com/example/ludarc/ludarc/engine/Domains", "remove", "(II)V"⟩ : MethodName)) hown (mvT hZ (hw _ (List.mem_of_getElem? (i := 146) rfl))) (mvT hZ (hw _ (List.mem_of_getElem? (i := 147) rfl))) (notFace_of_selects (args := #[]) (mvT hZ (hw _ (List.mem_of_getElem? (i := 149) rfl)))) (mvT hZ (hw _ (List.mem_of_getElem? (i := 149) rfl))) (mvT hZ (hw _ (List.mem_of_getElem? (i := 148) rfl))) (by decide) (backOf (W := 0) (rmR1 l Z a0 hw [] d mem pos siz mrk m0 p0 k0 m1 p1 k1 rd fsz fm0 fp0 fk0 fm1 fp1 fk1 ww h0 n0 Z0 hord hdom hww hr.1 hr.2.1 hr.2.2.1 hr.2.2.2.1) hZ (hw _ (List.mem_of_getElem? (i := 150) rfl)) (hw _ (List.mem_of_getElem? (i := 86) rfl)) (by decide) (by decide)) q1025a q1025c (g := (mkF m 106 #[.val (.ref d), .val (.ref in0), .val (.ref in1), .val (.int xx), .val (.int vv), .val (.int (((xx.toUInt32 >>> ((2 : Int32) &&& 31).toUInt32).toInt32) &&& (3 : Int32))), .val (.int ww)] [(.int ww), (.int (1 : Int32)), (.ref d)])) rfl (by rw [hml]; rfl) (Steps.refl _) (argsL := [(.int (1 : Int32)), (.int ww)]) (rest := []) (lenOf pd_9 rfl) rfl (by show 2 * 0 + _ ≤ _; exact Nat.le_of_eq rfl) (hb hby d18_106) (fun _ _ => ⟨rfl, e0, (by decide : 0 + 0 ≤ _), (by decide : 0 + 0 ≤ _)⟩)
          dsimp only [Pt.U, Pt.locs, Pt.cells, Pt.slots] at X1025 l1025 y1025 z1025 st1025 hQ1025
          obtain rfl : k1025 = 0 := y1025
          obtain rfl : n1025 = 0 := z1025
          obtain ⟨rfl, N1025q, K1025, dom1025⟩ := hQ1025
          have N1025 : Fr n0 L1025 := by rw [l1025]; exact Fr.app N0 N1025q
          have G1026 : Go p e below A0 (T1025.setTop (mkF m 109 #[.val (.ref d), .val (.ref in0), .val (.ref in1), .val (.int xx), .val (.int vv), .val (.int (((xx.toUInt32 >>> ((2 : Int32) &&& 31).toUInt32).toInt32) &&& (3 : Int32))), .val (.int ww)] [])) := fun tq kq => G1024 tq (st1025.trans kq)
          have G1027 : Go p e below A0 (T1025.setTop (mkF m 113 #[.val (.ref d), .val (.ref in0), .val (.ref in1), .val (.int xx), .val (.int vv), .val (.int (((xx.toUInt32 >>> ((2 : Int32) &&& 31).toUInt32).toInt32) &&& (3 : Int32))), .val (.int ww)] [(.int (0 : Int32)), (.int ww), (.ref in1)])) := fun tq kq => G1026 tq (by
            refine XS.aloadN X1025.here hx rfl (hb hby d18_109) rfl rfl ?_
            show Steps p.tables e below (T1025.setTop (mkF m 110 #[.val (.ref d), .val (.ref in0), .val (.ref in1), .val (.int xx), .val (.int vv), .val (.int (((xx.toUInt32 >>> ((2 : Int32) &&& 31).toUInt32).toInt32) &&& (3 : Int32))), .val (.int ww)] [(.ref in1)])) _
            refine XS.iload X1025.here hx rfl (hb hby d18_110) rfl ?_
            show Steps p.tables e below (T1025.setTop (mkF m 112 #[.val (.ref d), .val (.ref in0), .val (.ref in1), .val (.int xx), .val (.int vv), .val (.int (((xx.toUInt32 >>> ((2 : Int32) &&& 31).toUInt32).toInt32) &&& (3 : Int32))), .val (.int ww)] [(.int ww), (.ref in1)])) _
            refine XS.iconst X1025.here hx rfl (hb hby d18_112) ?_
            show Steps p.tables e below (T1025.setTop (mkF m 113 #[.val (.ref d), .val (.ref in0), .val (.ref in1), .val (.int xx), .val (.int vv), .val (.int (((xx.toUInt32 >>> ((2 : Int32) &&& 31).toUInt32).toInt32) &&& (3 : Int32))), .val (.int ww)] [(.int (0 : Int32)), (.int ww), (.ref in1)])) _
            exact kq)
          have f1028 := (hin1.keep K1025 (ninS (Ne.symm (show @Ne Nat m1 in1 by omega)) (ninS (Ne.symm (show @Ne Nat p1 in1 by omega)) (ninS (Ne.symm (show @Ne Nat siz in1 by omega)) nin0))))
          obtain ⟨cl1029, Ar1029, q1029, S1029, M1029, H1029⟩ := id f1028
          have hi1030 : ¬ (ww < 0 ∨ cl1029.slots.size ≤ (ww).toNatClampNeg) := (inb_of S1029 hww)
          obtain ⟨T1031, h1031, X1031, e1031, W1031, st1031⟩ := stZ X1025 hx hZ rfl Ar1029 (j := ww) hi1030 (g := (mkF m 113 #[.val (.ref d), .val (.ref in0), .val (.ref in1), .val (.int xx), .val (.int vv), .val (.int (((xx.toUInt32 >>> ((2 : Int32) &&& 31).toUInt32).toInt32) &&& (3 : Int32))), .val (.int ww)] [(.int (0 : Int32)), (.int ww), (.ref in1)])) rfl rfl (hb hby d18_113)
          rw [show nar .boolean (0 : Int32) = (0 : Int32) from by decide] at W1031
          have N1031 := Fr.snoc X1031 N1025 (show @LE.le Nat _ n0 in1 by omega)
          have V1031 : Af Z h1031 in1 ki1 .boolean (2 : Int32) (fun i => .int ((own_up jw (ww).toNatClampNeg (0 : Int32)) i)) := (Af.set Ar1029 q1029 S1029 M1029 H1029 W1031 hi1030).fn (fun j _ => own_upf _ _ _ _ rfl j)
          have G1032 : Go p e below A0 (T1031.setTop (mkF m 114 #[.val (.ref d), .val (.ref in0), .val (.ref in1), .val (.int xx), .val (.int vv), .val (.int (((xx.toUInt32 >>> ((2 : Int32) &&& 31).toUInt32).toInt32) &&& (3 : Int32))), .val (.int ww)] [])) := fun tq kq => G1027 tq (st1031 _ kq)
          have f1033 := (own_domW dom1025 W1031 hord o13)
          have f1034 := ((hin0.keep K1025 (ninS (Ne.symm (show @Ne Nat m1 in0 by omega)) (ninS (Ne.symm (show @Ne Nat p1 in0 by omega)) (ninS (Ne.symm (show @Ne Nat siz in0 by omega)) nin0)))).other W1031 (show @Ne Nat in0 in1 by omega))
          have hst' : Stp (own_up fsz 1 ((fsz 1) - (1 : Int32))) fm0 fp0 (own_sm fm1 (fp1 ww.toNatClampNeg) ((fsz 1) - (1 : Int32))) (own_sp fm1 fp1 (fp1 ww.toNatClampNeg) ((fsz 1) - (1 : Int32))) ju (own_up jw (ww).toNatClampNeg (0 : Int32)) := ⟨hst.1, hr.2.2.2.2.1, hst.2.2.1, ⟨hr.2.1.1, hr.2.2.2.2.2.1⟩, hst.2.2.2.2.1, hr.2.2.2.2.2.2⟩
          obtain ⟨fs, hr, hrun, hended, hW, hsame⟩ := X1031.leave (v := none) (fun _ => rfl)
          refine ⟨_, _, (by rw [← hA0]; exact G1032 _ (X1031.returnOut hx Bd.returns (hb hby d18_114) hr)), hrun, hended, _, _, rfl, ?_, ⟨_, rfl⟩, hW, hsame.mono (by decide) (by decide)⟩
          show Qst Z d mem pos siz mrk m0 p0 k0 m1 p1 k1 rd fsz fm0 fp0 fk0 fm1 fp1 fk1 in0 in1 ki0 ki1 ju jw h0 n0 _ T1031.heap _
          rw [e1031]
          exact ⟨(own_up fsz 1 ((fsz 1) - (1 : Int32))), fm0, fp0, (own_sm fm1 (fp1 ww.toNatClampNeg) ((fsz 1) - (1 : Int32))), (own_sp fm1 fp1 (fp1 ww.toNatClampNeg) ((fsz 1) - (1 : Int32))), ju, (own_up jw (ww).toNatClampNeg (0 : Int32)), rfl, N1031, (((Keep.refl h0 [siz, m0, p0, m1, p1, in0, in1]).trans K1025 (allS (P := fun x => x ∈ [siz, m0, p0, m1, p1, in0, in1] ∨ h0.size ≤ x) (Or.inl (List.mem_of_getElem? (i := 3) rfl)) (allS (P := fun x => x ∈ [siz, m0, p0, m1, p1, in0, in1] ∨ h0.size ≤ x) (Or.inl (List.mem_of_getElem? (i := 4) rfl)) (allS (P := fun x => x ∈ [siz, m0, p0, m1, p1, in0, in1] ∨ h0.size ≤ x) (Or.inl (List.mem_of_getElem? (i := 0) rfl)) all0)))).wr W1031 (Or.inl (List.mem_of_getElem? (i := 6) rfl))), f1033, f1034, V1031, hst'⟩
      · have G1035 : Go p e below A0 (s₁.setTop (mkF m 114 #[.val (.ref d), .val (.ref in0), .val (.ref in1), .val (.int xx), .val (.int vv), .val (.int (((xx.toUInt32 >>> ((2 : Int32) &&& 31).toUInt32).toInt32) &&& (3 : Int32))), .unset] [])) := fun tq kq => G1013 tq (by
          refine XS.icmpYes X0.here hx rfl (pc0 := 86) (pc' := 114) rfl (hb hby d18_86) rfl (feq hc1014).2 (by decide) (by decide) ?_
          show Steps p.tables e below (s₁.setTop (mkF m 114 #[.val (.ref d), .val (.ref in0), .val (.ref in1), .val (.int xx), .val (.int vv), .val (.int (((xx.toUInt32 >>> ((2 : Int32) &&& 31).toUInt32).toInt32) &&& (3 : Int32))), .unset] [])) _
          exact kq)
        obtain ⟨fs, hr, hrun, hended, hW, hsame⟩ := X0.leave (v := none) (fun _ => rfl)
        refine ⟨_, _, (by rw [← hA0]; exact G1035 _ (X0.returnOut hx Bd.returns (hb hby d18_114) hr)), hrun, hended, _, _, rfl, ?_, ⟨_, rfl⟩, hW, hsame.mono (by decide) (by decide)⟩
        show Qst Z d mem pos siz mrk m0 p0 k0 m1 p1 k1 rd fsz fm0 fp0 fk0 fm1 fp1 fk1 in0 in1 ki0 ki1 ju jw h0 n0 _ s₁.heap _
        rw [e0]
        exact ⟨fsz, fm0, fp0, fm1, fp1, ju, jw, rfl, N0, (Keep.refl h0 [siz, m0, p0, m1, p1, in0, in1]), hdom, hin0, hin1, hst⟩
def Q0c (n0 : Nat) (v : Option Value) (L : List Loc) : Prop := v = some (.int 1) ∧ Fr n0 L
set_option maxRecDepth 65536 in
set_option maxHeartbeats 40000000 in
theorem rm0 (l : Launch) (Z : State) (a0 : Array Value) (hw : ∀ d ∈ tables_1, d.before a0 Z = true) (ws : List Jvm.Cond) (p0 p1 p2 : Int32) (da : Addr) (kd : ClassId) (h0 : Heap) (n0 : Nat) (Z0 : n0 ≤ h0.size) (hold : Old Z n0 h0) (hSd : Sta Z Z.heap "java/util/ArrayList" "DEFAULTCAPACITY_EMPTY_ELEMENTDATA" "[Ljava/lang/Object;" (.ref da)) (hAd : Arv Z Z.heap da kd (.object "java/lang/Object") (0 : Int32) [] .null) :
    MetFree l x (head1 (Jvm.Cond.code x code maxLocals ret :: ws) room_1) (fun aa UU => aa = #[(.int p0), (.int p1), (.int p2)] ∧ Z.Warmed39 UU.vm ∧ UU.heap = h0) (fun _ _ _ _ _ => True) (fun _ UU oo U' => ∃ v L, oo = .returned v ∧ Q0c n0 v L ∧ ReturnedEndW UU oo U' L room_1.cells room_1.slots) := by
  refine MetFree.of_bodySF (plainFor_of_name pn_7) hisR ?_
  intro p e s m args below meth c s₁ Bd hml0 hP hK
  obtain ⟨rfl, hZ, hh⟩ := hP
  have hx := Bd.exec
  have hby := Bd.bytes
  have hml : c.maxLocals = 7 := hml0
  have hown : s.vm.findClass "com/example/ludarc/ludarc/engine/DomainsContainsPinLaw" = some m.cls := findClass_of_methodNamed Bd.named
  have hnm := (name_of_methodNamed Bd.named Bd.method).1
  have X0 : Stand p l e room_1 s m #[(.int p0), (.int p1), (.int p2)] below meth c s₁ [] 0 0 := Stand.of_body Bd
  have e0 : s₁.heap = h0 := by rw [← hh, Bd.state]; rfl
  have N0 := Fr.nil n0
  obtain ⟨A0, hA0⟩ : ∃ A, A = s₁.setTop (entryFrame m #[(.int p0), (.int p1), (.int p2)] maxLocals) := ⟨_, rfl⟩
  have G0 : Go p e below A0 (s₁.setTop (mkF m 0 #[.val (.int p0), .val (.int p1), .val (.int p2), .unset, .unset, .unset, .unset] [])) := fun tq kq => by rw [hA0]; exact castTop (ef_rm0 m p0 p1 p2) kq
  have hS : s.Since s.vm 0 := (State.WarmedH.refl s).since 0
  have hstr : ∀ d ∈ Bundle.stringAtoms, d.before a0 Z = true := fun d hd => hw d ((by decide +kernel : ∀ d ∈ Bundle.stringAtoms, d ∈ tables_1) d hd)
  obtain ⟨T1036, h1036, X1036, e1036, E1036, A1036, D1036, -, st1036⟩ := newO X0 hx hZ hown (hw _ (List.mem_of_getElem? (i := 0) rfl)) (hw _ (List.mem_of_getElem? (i := 1) rfl)) (hw _ (List.mem_of_getElem? (i := 2) rfl)) e0 (g := (mkF m 0 #[.val (.int p0), .val (.int p1), .val (.int p2), .unset, .unset, .unset, .unset] [])) rfl (hb hby at_0) (by decide) (by decide)
  obtain ⟨b1036, g1036⟩ : ∃ z, z = h0.size := ⟨_, rfl⟩
  rw [← g1036] at A1036 D1036 st1036
  have sz_b1036 : h0.size ≤ b1036 := Nat.le_trans (Nat.le_refl h0.size) (Nat.le_of_eq g1036.symm)
  have g_b1036 : n0 ≤ b1036 := Nat.le_trans Z0 (Nat.le_of_eq g1036.symm)
  have F1036_modCount : Fld Z h1036 b1036 "java/util/AbstractList" "modCount" "I" (.int (0 : Int32)) := D1036 (Or.inl (hw _ (List.mem_of_getElem? (i := 22) rfl))) (ty := .int) (by decide)
  have F1036_elementData : Fld Z h1036 b1036 "java/util/ArrayList" "elementData" "[Ljava/lang/Object;" .null := D1036 (Or.inl (hw _ (List.mem_of_getElem? (i := 25) rfl))) (ty := (.array (.object "java/lang/Object"))) (by decide)
  have F1036_size : Fld Z h1036 b1036 "java/util/ArrayList" "size" "I" (.int (0 : Int32)) := D1036 (Or.inl (hw _ (List.mem_of_getElem? (i := 60) rfl))) (ty := .int) (by decide)
  have G1037 : Go p e below A0 (T1036.setTop (mkF m 3 #[.val (.int p0), .val (.int p1), .val (.int p2), .unset, .unset, .unset, .unset] [(.ref b1036)])) := fun tq kq => G0 tq (st1036 _ kq)
  have G1038 : Go p e below A0 (T1036.setTop (mkF m 4 #[.val (.int p0), .val (.int p1), .val (.int p2), .unset, .unset, .unset, .unset] [(.ref b1036), (.ref b1036)])) := fun tq kq => G1037 tq (by
    refine XS.dup X1036.here hx rfl (hb hby at_3) rfl rfl ?_
    show Steps p.tables e below (T1036.setTop (mkF m 4 #[.val (.int p0), .val (.int p1), .val (.int p2), .unset, .unset, .unset, .unset] [(.ref b1036), (.ref b1036)])) _
    exact kq)
  have f1040 := (Nat.le_trans Z0 E1036.1)
  have f1041 := (hold.ext E1036)
  obtain ⟨_, _, ⟨T1039, L1039, k1039, n1039⟩, -, X1039, ⟨Lc1039, hQ1039, l1039, y1039, z1039⟩, st1039⟩ := X1036.specialBack hx (y := (⟨"java/util/ArrayList", "<init>", "()V"⟩ : MethodName)) rfl hown (mvT hZ (hw _ (List.mem_of_getElem? (i := 3) rfl))) (mvT hZ (hw _ (List.mem_of_getElem? (i := 4) rfl))) (mvT hZ (hw _ (List.mem_of_getElem? (i := 5) rfl))) (by decide) (backOf (W := 1) (rm1 l Z a0 hw [] b1036 da h1036 n0 f1040 A1036 g_b1036 F1036_modCount F1036_elementData F1036_size f1041 hSd) hZ (hw _ (List.mem_of_getElem? (i := 5) rfl)) (hw _ (List.mem_of_getElem? (i := 2) rfl)) (by decide) (by decide)) (g := (mkF m 4 #[.val (.int p0), .val (.int p1), .val (.int p2), .unset, .unset, .unset, .unset] [(.ref b1036), (.ref b1036)])) rfl (by rw [hml]; rfl) (Steps.refl _) (a := b1036) (argsL := []) (rest := [(.ref b1036)]) (lenOf pd_0 rfl) rfl (by show 2 * 0 + _ ≤ _; exact Nat.le_of_eq rfl) (hb hby at_4) (fun _ _ => ⟨rfl, e1036, (by decide : 1 + 0 ≤ _), (by decide : 3 + 0 ≤ _)⟩)
  dsimp only [Pt.U, Pt.locs, Pt.cells, Pt.slots] at X1039 l1039 y1039 z1039 st1039 hQ1039
  obtain rfl : k1039 = 1 := y1039
  obtain rfl : n1039 = 3 := z1039
  obtain ⟨rfl, N1039q, K1039, Fx1039_0, Fx1039_1, Fx1039_2⟩ := hQ1039
  have N1039 : Fr n0 L1039 := by rw [l1039]; exact Fr.app N0 N1039q
  have G1042 : Go p e below A0 (T1039.setTop (mkF m 7 #[.val (.int p0), .val (.int p1), .val (.int p2), .unset, .unset, .unset, .unset] [(.ref b1036)])) := fun tq kq => G1038 tq (st1039.trans kq)
  have G1043 : Go p e below A0 (T1039.setTop (mkF m 9 #[.val (.int p0), .val (.int p1), .val (.int p2), .val (.ref b1036), .unset, .unset, .unset] [(.ref b1036)])) := fun tq kq => G1042 tq (by
    refine XS.astoreN X1039.here hx rfl (hb hby at_7) rfl rfl (l' := #[.val (.int p0), .val (.int p1), .val (.int p2), .val (.ref b1036), .unset, .unset, .unset]) rfl ?_
    show Steps p.tables e below (T1039.setTop (mkF m 8 #[.val (.int p0), .val (.int p1), .val (.int p2), .val (.ref b1036), .unset, .unset, .unset] [])) _
    refine XS.aloadN X1039.here hx rfl (hb hby at_8) rfl rfl ?_
    show Steps p.tables e below (T1039.setTop (mkF m 9 #[.val (.int p0), .val (.int p1), .val (.int p2), .val (.ref b1036), .unset, .unset, .unset] [(.ref b1036)])) _
    exact kq)
  have f1045 := (Nat.le_trans f1040 K1039.1)
  obtain ⟨T1044, h1044, X1044, e1044, E1044, A1044, D1044, -, st1044⟩ := newO X1039 hx hZ hown (hw _ (List.mem_of_getElem? (i := 26) rfl)) (hw _ (List.mem_of_getElem? (i := 27) rfl)) (hw _ (List.mem_of_getElem? (i := 28) rfl)) rfl (g := (mkF m 9 #[.val (.int p0), .val (.int p1), .val (.int p2), .val (.ref b1036), .unset, .unset, .unset] [(.ref b1036)])) rfl (hb hby at_9) (by decide) (by decide)
  obtain ⟨b1044, g1044⟩ : ∃ z, z = T1039.heap.size := ⟨_, rfl⟩
  rw [← g1044] at A1044 D1044 st1044
  have f1046 := (Nat.le_trans (Nat.le_trans (Nat.le_refl h0.size) E1036.1) K1039.1)
  have sz_b1044 : h0.size ≤ b1044 := Nat.le_trans f1046 (Nat.le_of_eq g1044.symm)
  have g_b1044 : n0 ≤ b1044 := Nat.le_trans f1045 (Nat.le_of_eq g1044.symm)
  have lt_b1036_b1044 : b1036 < b1044 := Nat.lt_of_lt_of_le (A1036.keep K1039).lt (Nat.le_of_eq g1044.symm)
  have F1044_owner : Fld Z h1044 b1044 "com/example/ludarc/ludarc/engine/Variable" "owner" "Lcom/example/ludarc/ludarc/engine/Network$Builder;" .null := D1044 (Or.inr (hw _ (List.mem_of_getElem? (i := 43) rfl))) (ty := (.object "com/example/ludarc/ludarc/engine/Network$Builder")) (by decide)
  have F1044_index : Fld Z h1044 b1044 "com/example/ludarc/ludarc/engine/Variable" "index" "I" (.int (0 : Int32)) := D1044 (Or.inr (hw _ (List.mem_of_getElem? (i := 45) rfl))) (ty := .int) (by decide)
  have F1044_name : Fld Z h1044 b1044 "com/example/ludarc/ludarc/engine/Variable" "name" "Ljava/lang/String;" .null := D1044 (Or.inr (hw _ (List.mem_of_getElem? (i := 47) rfl))) (ty := (.object "java/lang/String")) (by decide)
  have F1044_values : Fld Z h1044 b1044 "com/example/ludarc/ludarc/engine/Variable" "values" "[I" .null := D1044 (Or.inr (hw _ (List.mem_of_getElem? (i := 49) rfl))) (ty := (.array .int)) (by decide)
  have F1044_probabilities : Fld Z h1044 b1044 "com/example/ludarc/ludarc/engine/Variable" "probabilities" "[D" .null := D1044 (Or.inr (hw _ (List.mem_of_getElem? (i := 51) rfl))) (ty := (.array .double)) (by decide)
  have G1047 : Go p e below A0 (T1044.setTop (mkF m 12 #[.val (.int p0), .val (.int p1), .val (.int p2), .val (.ref b1036), .unset, .unset, .unset] [(.ref b1044), (.ref b1036)])) := fun tq kq => G1043 tq (st1044 _ kq)
  have G1048 : Go p e below A0 (T1044.setTop (mkF m 15 #[.val (.int p0), .val (.int p1), .val (.int p2), .val (.ref b1036), .unset, .unset, .unset] [(.int (0 : Int32)), .null, (.ref b1044), (.ref b1044), (.ref b1036)])) := fun tq kq => G1047 tq (by
    refine XS.dup X1044.here hx rfl (hb hby at_12) rfl rfl ?_
    show Steps p.tables e below (T1044.setTop (mkF m 13 #[.val (.int p0), .val (.int p1), .val (.int p2), .val (.ref b1036), .unset, .unset, .unset] [(.ref b1044), (.ref b1044), (.ref b1036)])) _
    refine XS.aconstNull X1044.here hx rfl (hb hby at_13) ?_
    show Steps p.tables e below (T1044.setTop (mkF m 14 #[.val (.int p0), .val (.int p1), .val (.int p2), .val (.ref b1036), .unset, .unset, .unset] [.null, (.ref b1044), (.ref b1044), (.ref b1036)])) _
    refine XS.iconst X1044.here hx rfl (hb hby at_14) ?_
    show Steps p.tables e below (T1044.setTop (mkF m 15 #[.val (.int p0), .val (.int p1), .val (.int p2), .val (.ref b1036), .unset, .unset, .unset] [(.int (0 : Int32)), .null, (.ref b1044), (.ref b1044), (.ref b1036)])) _
    exact kq)
  have f1050 := (Nat.le_trans (Nat.le_trans (Nat.le_trans (Nat.zero_le h0.size) E1036.1) K1039.1) E1044.1)
  obtain ⟨a1049, T1049, h1049, k1049, X1049, e1049, E1049, hS, hk1049, hZ, hown, st1049⟩ := ldcS (s := s) (vm0 := s.vm) X1044 hx hZ hown (hw _ (List.mem_of_getElem? (i := 29) rfl)) hstr e1044 hS f1050 (g := (mkF m 15 #[.val (.int p0), .val (.int p1), .val (.int p2), .val (.ref b1036), .unset, .unset, .unset] [(.int (0 : Int32)), .null, (.ref b1044), (.ref b1044), (.ref b1036)])) rfl (hb hby at_15) (n := 4) (by decide) (by decide) (by decide) (by decide)
  have G1051 : Go p e below A0 (T1049.setTop (mkF m 17 #[.val (.int p0), .val (.int p1), .val (.int p2), .val (.ref b1036), .unset, .unset, .unset] [(.ref a1049), (.int (0 : Int32)), .null, (.ref b1044), (.ref b1044), (.ref b1036)])) := fun tq kq => G1048 tq (st1049 _ kq)
  have G1052 : Go p e below A0 (T1049.setTop (mkF m 18 #[.val (.int p0), .val (.int p1), .val (.int p2), .val (.ref b1036), .unset, .unset, .unset] [(.int (4 : Int32)), (.ref a1049), (.int (0 : Int32)), .null, (.ref b1044), (.ref b1044), (.ref b1036)])) := fun tq kq => G1051 tq (by
    refine XS.iconst X1049.here hx rfl (hb hby at_17) ?_
    show Steps p.tables e below (T1049.setTop (mkF m 18 #[.val (.int p0), .val (.int p1), .val (.int p2), .val (.ref b1036), .unset, .unset, .unset] [(.int (4 : Int32)), (.ref a1049), (.int (0 : Int32)), .null, (.ref b1044), (.ref b1044), (.ref b1036)])) _
    exact kq)
  have f1054 := (Nat.le_trans (Nat.le_trans f1045 E1044.1) E1049.1)
  obtain ⟨T1053, h1053, k1053, X1053, e1053, E1053, A1053, st1053⟩ := newP X1049 hx hZ (hw _ (List.mem_of_getElem? (i := 37) rfl)) e1049 (g := (mkF m 18 #[.val (.int p0), .val (.int p1), .val (.int p2), .val (.ref b1036), .unset, .unset, .unset] [(.int (4 : Int32)), (.ref a1049), (.int (0 : Int32)), .null, (.ref b1044), (.ref b1044), (.ref b1036)])) rfl (hb hby at_18) rfl (by decide) (cap := 4) (by decide) (by decide) (by decide) (by decide)
  obtain ⟨b1053, g1053⟩ : ∃ z, z = h1049.size := ⟨_, rfl⟩
  rw [← g1053] at A1053 st1053
  have f1055 := (Nat.le_trans (Nat.le_trans f1046 E1044.1) E1049.1)
  have sz_b1053 : h0.size ≤ b1053 := Nat.le_trans f1055 (Nat.le_of_eq g1053.symm)
  have g_b1053 : n0 ≤ b1053 := Nat.le_trans f1054 (Nat.le_of_eq g1053.symm)
  have lt_b1036_b1053 : b1036 < b1053 := Nat.lt_of_lt_of_le (((A1036.keep K1039).ext E1044).ext E1049).lt (Nat.le_of_eq g1053.symm)
  have lt_b1044_b1053 : b1044 < b1053 := Nat.lt_of_lt_of_le (A1044.ext E1049).lt (Nat.le_of_eq g1053.symm)
  have V1053 : Arv Z h1053 b1053 k1053 .int (4 : Int32) [(.int (0 : Int32)), (.int (0 : Int32)), (.int (0 : Int32)), (.int (0 : Int32))] (.int (0 : Int32)) := (Arv.new A1053 (by decide)).pad (pad_rep [] (.int (0 : Int32)) 4)
  have G1056 : Go p e below A0 (T1053.setTop (mkF m 20 #[.val (.int p0), .val (.int p1), .val (.int p2), .val (.ref b1036), .unset, .unset, .unset] [(.ref b1053), (.ref a1049), (.int (0 : Int32)), .null, (.ref b1044), (.ref b1044), (.ref b1036)])) := fun tq kq => G1052 tq (st1053 _ kq)
  have G1057 : Go p e below A0 (T1053.setTop (mkF m 24 #[.val (.int p0), .val (.int p1), .val (.int p2), .val (.ref b1036), .unset, .unset, .unset] [(.int (10 : Int32)), (.int (0 : Int32)), (.ref b1053), (.ref b1053), (.ref a1049), (.int (0 : Int32)), .null, (.ref b1044), (.ref b1044), (.ref b1036)])) := fun tq kq => G1056 tq (by
    refine XS.dup X1053.here hx rfl (hb hby at_20) rfl rfl ?_
    show Steps p.tables e below (T1053.setTop (mkF m 21 #[.val (.int p0), .val (.int p1), .val (.int p2), .val (.ref b1036), .unset, .unset, .unset] [(.ref b1053), (.ref b1053), (.ref a1049), (.int (0 : Int32)), .null, (.ref b1044), (.ref b1044), (.ref b1036)])) _
    refine XS.iconst X1053.here hx rfl (hb hby at_21) ?_
    show Steps p.tables e below (T1053.setTop (mkF m 22 #[.val (.int p0), .val (.int p1), .val (.int p2), .val (.ref b1036), .unset, .unset, .unset] [(.int (0 : Int32)), (.ref b1053), (.ref b1053), (.ref a1049), (.int (0 : Int32)), .null, (.ref b1044), (.ref b1044), (.ref b1036)])) _
    refine XS.bipush X1053.here hx rfl (hb hby at_22) ?_
    show Steps p.tables e below (T1053.setTop (mkF m 24 #[.val (.int p0), .val (.int p1), .val (.int p2), .val (.ref b1036), .unset, .unset, .unset] [(.int (10 : Int32)), (.int (0 : Int32)), (.ref b1053), (.ref b1053), (.ref a1049), (.int (0 : Int32)), .null, (.ref b1044), (.ref b1044), (.ref b1036)])) _
    exact kq)
  obtain ⟨cl1058, Ar1058, q1058, S1058, M1058, H1058, Gf1058⟩ := id V1053
  have hi1059 : ¬ ((0 : Int32) < 0 ∨ cl1058.slots.size ≤ ((0 : Int32)).toNatClampNeg) := (inb_of S1058 ⟨by decide, by decide⟩)
  obtain ⟨T1060, h1060, X1060, e1060, W1060, st1060⟩ := stI X1053 hx hZ e1053 Ar1058 (j := (0 : Int32)) hi1059 (g := (mkF m 24 #[.val (.int p0), .val (.int p1), .val (.int p2), .val (.ref b1036), .unset, .unset, .unset] [(.int (10 : Int32)), (.int (0 : Int32)), (.ref b1053), (.ref b1053), (.ref a1049), (.int (0 : Int32)), .null, (.ref b1044), (.ref b1044), (.ref b1036)])) rfl rfl (hb hby at_24)
  have N1060 := Fr.snoc X1060 N1039 g_b1053
  have V1060 := Arv.set Ar1058 q1058 S1058 M1058 H1058 Gf1058 rfl W1060 0 rfl (Nat.le_of_ble_eq_true rfl)
  have V1060' : Arv Z h1060 b1053 k1053 .int (4 : Int32) [(.int (10 : Int32)), (.int (0 : Int32)), (.int (0 : Int32)), (.int (0 : Int32))] (.int (0 : Int32)) := by exact V1060
  have G1061 : Go p e below A0 (T1060.setTop (mkF m 25 #[.val (.int p0), .val (.int p1), .val (.int p2), .val (.ref b1036), .unset, .unset, .unset] [(.ref b1053), (.ref a1049), (.int (0 : Int32)), .null, (.ref b1044), (.ref b1044), (.ref b1036)])) := fun tq kq => G1057 tq (st1060 _ kq)
  have G1062 : Go p e below A0 (T1060.setTop (mkF m 29 #[.val (.int p0), .val (.int p1), .val (.int p2), .val (.ref b1036), .unset, .unset, .unset] [(.int (20 : Int32)), (.int (1 : Int32)), (.ref b1053), (.ref b1053), (.ref a1049), (.int (0 : Int32)), .null, (.ref b1044), (.ref b1044), (.ref b1036)])) := fun tq kq => G1061 tq (by
    refine XS.dup X1060.here hx rfl (hb hby at_25) rfl rfl ?_
    show Steps p.tables e below (T1060.setTop (mkF m 26 #[.val (.int p0), .val (.int p1), .val (.int p2), .val (.ref b1036), .unset, .unset, .unset] [(.ref b1053), (.ref b1053), (.ref a1049), (.int (0 : Int32)), .null, (.ref b1044), (.ref b1044), (.ref b1036)])) _
    refine XS.iconst X1060.here hx rfl (hb hby at_26) ?_
    show Steps p.tables e below (T1060.setTop (mkF m 27 #[.val (.int p0), .val (.int p1), .val (.int p2), .val (.ref b1036), .unset, .unset, .unset] [(.int (1 : Int32)), (.ref b1053), (.ref b1053), (.ref a1049), (.int (0 : Int32)), .null, (.ref b1044), (.ref b1044), (.ref b1036)])) _
    refine XS.bipush X1060.here hx rfl (hb hby at_27) ?_
    show Steps p.tables e below (T1060.setTop (mkF m 29 #[.val (.int p0), .val (.int p1), .val (.int p2), .val (.ref b1036), .unset, .unset, .unset] [(.int (20 : Int32)), (.int (1 : Int32)), (.ref b1053), (.ref b1053), (.ref a1049), (.int (0 : Int32)), .null, (.ref b1044), (.ref b1044), (.ref b1036)])) _
    exact kq)
  obtain ⟨cl1063, Ar1063, q1063, S1063, M1063, H1063, Gf1063⟩ := id V1060'
  have hi1064 : ¬ ((1 : Int32) < 0 ∨ cl1063.slots.size ≤ ((1 : Int32)).toNatClampNeg) := (inb_of S1063 ⟨by decide, by decide⟩)
  obtain ⟨T1065, h1065, X1065, e1065, W1065, st1065⟩ := stI X1060 hx hZ e1060 Ar1063 (j := (1 : Int32)) hi1064 (g := (mkF m 29 #[.val (.int p0), .val (.int p1), .val (.int p2), .val (.ref b1036), .unset, .unset, .unset] [(.int (20 : Int32)), (.int (1 : Int32)), (.ref b1053), (.ref b1053), (.ref a1049), (.int (0 : Int32)), .null, (.ref b1044), (.ref b1044), (.ref b1036)])) rfl rfl (hb hby at_29)
  have N1065 := Fr.snoc X1065 N1060 g_b1053
  have V1065 := Arv.set Ar1063 q1063 S1063 M1063 H1063 Gf1063 rfl W1065 1 rfl (Nat.le_of_ble_eq_true rfl)
  have V1065' : Arv Z h1065 b1053 k1053 .int (4 : Int32) [(.int (10 : Int32)), (.int (20 : Int32)), (.int (0 : Int32)), (.int (0 : Int32))] (.int (0 : Int32)) := by exact V1065
  have G1066 : Go p e below A0 (T1065.setTop (mkF m 30 #[.val (.int p0), .val (.int p1), .val (.int p2), .val (.ref b1036), .unset, .unset, .unset] [(.ref b1053), (.ref a1049), (.int (0 : Int32)), .null, (.ref b1044), (.ref b1044), (.ref b1036)])) := fun tq kq => G1062 tq (st1065 _ kq)
  have G1067 : Go p e below A0 (T1065.setTop (mkF m 34 #[.val (.int p0), .val (.int p1), .val (.int p2), .val (.ref b1036), .unset, .unset, .unset] [(.int (30 : Int32)), (.int (2 : Int32)), (.ref b1053), (.ref b1053), (.ref a1049), (.int (0 : Int32)), .null, (.ref b1044), (.ref b1044), (.ref b1036)])) := fun tq kq => G1066 tq (by
    refine XS.dup X1065.here hx rfl (hb hby at_30) rfl rfl ?_
    show Steps p.tables e below (T1065.setTop (mkF m 31 #[.val (.int p0), .val (.int p1), .val (.int p2), .val (.ref b1036), .unset, .unset, .unset] [(.ref b1053), (.ref b1053), (.ref a1049), (.int (0 : Int32)), .null, (.ref b1044), (.ref b1044), (.ref b1036)])) _
    refine XS.iconst X1065.here hx rfl (hb hby at_31) ?_
    show Steps p.tables e below (T1065.setTop (mkF m 32 #[.val (.int p0), .val (.int p1), .val (.int p2), .val (.ref b1036), .unset, .unset, .unset] [(.int (2 : Int32)), (.ref b1053), (.ref b1053), (.ref a1049), (.int (0 : Int32)), .null, (.ref b1044), (.ref b1044), (.ref b1036)])) _
    refine XS.bipush X1065.here hx rfl (hb hby at_32) ?_
    show Steps p.tables e below (T1065.setTop (mkF m 34 #[.val (.int p0), .val (.int p1), .val (.int p2), .val (.ref b1036), .unset, .unset, .unset] [(.int (30 : Int32)), (.int (2 : Int32)), (.ref b1053), (.ref b1053), (.ref a1049), (.int (0 : Int32)), .null, (.ref b1044), (.ref b1044), (.ref b1036)])) _
    exact kq)
  obtain ⟨cl1068, Ar1068, q1068, S1068, M1068, H1068, Gf1068⟩ := id V1065'
  have hi1069 : ¬ ((2 : Int32) < 0 ∨ cl1068.slots.size ≤ ((2 : Int32)).toNatClampNeg) := (inb_of S1068 ⟨by decide, by decide⟩)
  obtain ⟨T1070, h1070, X1070, e1070, W1070, st1070⟩ := stI X1065 hx hZ e1065 Ar1068 (j := (2 : Int32)) hi1069 (g := (mkF m 34 #[.val (.int p0), .val (.int p1), .val (.int p2), .val (.ref b1036), .unset, .unset, .unset] [(.int (30 : Int32)), (.int (2 : Int32)), (.ref b1053), (.ref b1053), (.ref a1049), (.int (0 : Int32)), .null, (.ref b1044), (.ref b1044), (.ref b1036)])) rfl rfl (hb hby at_34)
  have N1070 := Fr.snoc X1070 N1065 g_b1053
  have V1070 := Arv.set Ar1068 q1068 S1068 M1068 H1068 Gf1068 rfl W1070 2 rfl (Nat.le_of_ble_eq_true rfl)
  have V1070' : Arv Z h1070 b1053 k1053 .int (4 : Int32) [(.int (10 : Int32)), (.int (20 : Int32)), (.int (30 : Int32)), (.int (0 : Int32))] (.int (0 : Int32)) := by exact V1070
  have G1071 : Go p e below A0 (T1070.setTop (mkF m 35 #[.val (.int p0), .val (.int p1), .val (.int p2), .val (.ref b1036), .unset, .unset, .unset] [(.ref b1053), (.ref a1049), (.int (0 : Int32)), .null, (.ref b1044), (.ref b1044), (.ref b1036)])) := fun tq kq => G1067 tq (st1070 _ kq)
  have G1072 : Go p e below A0 (T1070.setTop (mkF m 39 #[.val (.int p0), .val (.int p1), .val (.int p2), .val (.ref b1036), .unset, .unset, .unset] [(.int (40 : Int32)), (.int (3 : Int32)), (.ref b1053), (.ref b1053), (.ref a1049), (.int (0 : Int32)), .null, (.ref b1044), (.ref b1044), (.ref b1036)])) := fun tq kq => G1071 tq (by
    refine XS.dup X1070.here hx rfl (hb hby at_35) rfl rfl ?_
    show Steps p.tables e below (T1070.setTop (mkF m 36 #[.val (.int p0), .val (.int p1), .val (.int p2), .val (.ref b1036), .unset, .unset, .unset] [(.ref b1053), (.ref b1053), (.ref a1049), (.int (0 : Int32)), .null, (.ref b1044), (.ref b1044), (.ref b1036)])) _
    refine XS.iconst X1070.here hx rfl (hb hby at_36) ?_
    show Steps p.tables e below (T1070.setTop (mkF m 37 #[.val (.int p0), .val (.int p1), .val (.int p2), .val (.ref b1036), .unset, .unset, .unset] [(.int (3 : Int32)), (.ref b1053), (.ref b1053), (.ref a1049), (.int (0 : Int32)), .null, (.ref b1044), (.ref b1044), (.ref b1036)])) _
    refine XS.bipush X1070.here hx rfl (hb hby at_37) ?_
    show Steps p.tables e below (T1070.setTop (mkF m 39 #[.val (.int p0), .val (.int p1), .val (.int p2), .val (.ref b1036), .unset, .unset, .unset] [(.int (40 : Int32)), (.int (3 : Int32)), (.ref b1053), (.ref b1053), (.ref a1049), (.int (0 : Int32)), .null, (.ref b1044), (.ref b1044), (.ref b1036)])) _
    exact kq)
  obtain ⟨cl1073, Ar1073, q1073, S1073, M1073, H1073, Gf1073⟩ := id V1070'
  have hi1074 : ¬ ((3 : Int32) < 0 ∨ cl1073.slots.size ≤ ((3 : Int32)).toNatClampNeg) := (inb_of S1073 ⟨by decide, by decide⟩)
  obtain ⟨T1075, h1075, X1075, e1075, W1075, st1075⟩ := stI X1070 hx hZ e1070 Ar1073 (j := (3 : Int32)) hi1074 (g := (mkF m 39 #[.val (.int p0), .val (.int p1), .val (.int p2), .val (.ref b1036), .unset, .unset, .unset] [(.int (40 : Int32)), (.int (3 : Int32)), (.ref b1053), (.ref b1053), (.ref a1049), (.int (0 : Int32)), .null, (.ref b1044), (.ref b1044), (.ref b1036)])) rfl rfl (hb hby at_39)
  have N1075 := Fr.snoc X1075 N1070 g_b1053
  have V1075 := Arv.set Ar1073 q1073 S1073 M1073 H1073 Gf1073 rfl W1075 3 rfl (Nat.le_of_ble_eq_true rfl)
  have V1075' : Arv Z h1075 b1053 k1053 .int (4 : Int32) [(.int (10 : Int32)), (.int (20 : Int32)), (.int (30 : Int32)), (.int (40 : Int32))] (.int (0 : Int32)) := by exact V1075
  have G1076 : Go p e below A0 (T1075.setTop (mkF m 40 #[.val (.int p0), .val (.int p1), .val (.int p2), .val (.ref b1036), .unset, .unset, .unset] [(.ref b1053), (.ref a1049), (.int (0 : Int32)), .null, (.ref b1044), (.ref b1044), (.ref b1036)])) := fun tq kq => G1072 tq (st1075 _ kq)
  have G1077 : Go p e below A0 (T1075.setTop (mkF m 41 #[.val (.int p0), .val (.int p1), .val (.int p2), .val (.ref b1036), .unset, .unset, .unset] [.null, (.ref b1053), (.ref a1049), (.int (0 : Int32)), .null, (.ref b1044), (.ref b1044), (.ref b1036)])) := fun tq kq => G1076 tq (by
    refine XS.aconstNull X1075.here hx rfl (hb hby at_40) ?_
    show Steps p.tables e below (T1075.setTop (mkF m 41 #[.val (.int p0), .val (.int p1), .val (.int p2), .val (.ref b1036), .unset, .unset, .unset] [.null, (.ref b1053), (.ref a1049), (.int (0 : Int32)), .null, (.ref b1044), (.ref b1044), (.ref b1036)])) _
    exact kq)
  have f1079 := (Nat.le_trans (Nat.le_trans (Nat.le_trans (Nat.le_trans (Nat.le_trans f1054 E1053.1) (Keep.of_wr W1060).1) (Keep.of_wr W1065).1) (Keep.of_wr W1070).1) (Keep.of_wr W1075).1)
  have f1080 := ((((((A1044.ext E1049).ext E1053).wr W1060).wr W1065).wr W1070).wr W1075)
  have f1081 := ((((((F1044_owner.ext E1049).ext E1053).other W1060 (Or.inl (Nat.ne_of_lt lt_b1044_b1053))).other W1065 (Or.inl (Nat.ne_of_lt lt_b1044_b1053))).other W1070 (Or.inl (Nat.ne_of_lt lt_b1044_b1053))).other W1075 (Or.inl (Nat.ne_of_lt lt_b1044_b1053)))
  have f1082 := ((((((F1044_index.ext E1049).ext E1053).other W1060 (Or.inl (Nat.ne_of_lt lt_b1044_b1053))).other W1065 (Or.inl (Nat.ne_of_lt lt_b1044_b1053))).other W1070 (Or.inl (Nat.ne_of_lt lt_b1044_b1053))).other W1075 (Or.inl (Nat.ne_of_lt lt_b1044_b1053)))
  have f1083 := ((((((F1044_name.ext E1049).ext E1053).other W1060 (Or.inl (Nat.ne_of_lt lt_b1044_b1053))).other W1065 (Or.inl (Nat.ne_of_lt lt_b1044_b1053))).other W1070 (Or.inl (Nat.ne_of_lt lt_b1044_b1053))).other W1075 (Or.inl (Nat.ne_of_lt lt_b1044_b1053)))
  have f1084 := ((((((F1044_values.ext E1049).ext E1053).other W1060 (Or.inl (Nat.ne_of_lt lt_b1044_b1053))).other W1065 (Or.inl (Nat.ne_of_lt lt_b1044_b1053))).other W1070 (Or.inl (Nat.ne_of_lt lt_b1044_b1053))).other W1075 (Or.inl (Nat.ne_of_lt lt_b1044_b1053)))
  have f1085 := ((((((F1044_probabilities.ext E1049).ext E1053).other W1060 (Or.inl (Nat.ne_of_lt lt_b1044_b1053))).other W1065 (Or.inl (Nat.ne_of_lt lt_b1044_b1053))).other W1070 (Or.inl (Nat.ne_of_lt lt_b1044_b1053))).other W1075 (Or.inl (Nat.ne_of_lt lt_b1044_b1053)))
  obtain ⟨_, _, ⟨T1078, L1078, k1078, n1078⟩, -, X1078, ⟨Lc1078, hQ1078, l1078, y1078, z1078⟩, st1078⟩ := X1075.specialBack hx (y := (⟨"com/example/ludarc/ludarc/engine/Variable", "<init>", "(Lcom/example/ludarc/ludarc/engine/Network$Builder;ILjava/lang/String;[I[D)V"⟩ : MethodName)) rfl hown (mvT hZ (hw _ (List.mem_of_getElem? (i := 38) rfl))) (mvT hZ (hw _ (List.mem_of_getElem? (i := 39) rfl))) (mvT hZ (hw _ (List.mem_of_getElem? (i := 40) rfl))) (by decide) (backOf (W := 2) (rm5 l Z a0 hw [] b1044 b1053 a1049 (0 : Int32) h1075 n0 f1079 f1080 g_b1044 f1081 f1082 f1083 f1084 f1085) hZ (hw _ (List.mem_of_getElem? (i := 40) rfl)) (hw _ (List.mem_of_getElem? (i := 28) rfl)) (by decide) (by decide)) (g := (mkF m 41 #[.val (.int p0), .val (.int p1), .val (.int p2), .val (.ref b1036), .unset, .unset, .unset] [.null, (.ref b1053), (.ref a1049), (.int (0 : Int32)), .null, (.ref b1044), (.ref b1044), (.ref b1036)])) rfl (by rw [hml]; rfl) (Steps.refl _) (a := b1044) (argsL := [.null, (.int (0 : Int32)), (.ref a1049), (.ref b1053), .null]) (rest := [(.ref b1044), (.ref b1036)]) (lenOf pd_10 rfl) rfl (by show 2 * 0 + _ ≤ _; exact Nat.le_of_eq rfl) (hb hby at_41) (fun _ _ => ⟨rfl, e1075, (by decide : 5 + 0 ≤ _), (by decide : 20 + 0 ≤ _)⟩)
  dsimp only [Pt.U, Pt.locs, Pt.cells, Pt.slots] at X1078 l1078 y1078 z1078 st1078 hQ1078
  obtain rfl : k1078 = 5 := y1078
  obtain rfl : n1078 = 20 := z1078
  obtain ⟨rfl, N1078q, K1078, Fv1078⟩ := hQ1078
  have N1078 : Fr n0 L1078 := by rw [l1078]; exact Fr.app N1075 N1078q
  have G1086 : Go p e below A0 (T1078.setTop (mkF m 44 #[.val (.int p0), .val (.int p1), .val (.int p2), .val (.ref b1036), .unset, .unset, .unset] [(.ref b1044), (.ref b1036)])) := fun tq kq => G1077 tq (st1078.trans kq)
  have f1088 := (Nat.le_trans f1079 K1078.1)
  have f1089 := (((((((((A1036.keep K1039).ext E1044).ext E1049).ext E1053).wr W1060).wr W1065).wr W1070).wr W1075).keep K1078)
  have f1090 := ((((((((Fx1039_0.ext E1044).ext E1049).ext E1053).other W1060 (Or.inl (Nat.ne_of_lt lt_b1036_b1053))).other W1065 (Or.inl (Nat.ne_of_lt lt_b1036_b1053))).other W1070 (Or.inl (Nat.ne_of_lt lt_b1036_b1053))).other W1075 (Or.inl (Nat.ne_of_lt lt_b1036_b1053))).keep K1078 (ninS (Nat.ne_of_lt lt_b1036_b1044) nin0))
  have f1091 := ((((((((Fx1039_1.ext E1044).ext E1049).ext E1053).other W1060 (Or.inl (Nat.ne_of_lt lt_b1036_b1053))).other W1065 (Or.inl (Nat.ne_of_lt lt_b1036_b1053))).other W1070 (Or.inl (Nat.ne_of_lt lt_b1036_b1053))).other W1075 (Or.inl (Nat.ne_of_lt lt_b1036_b1053))).keep K1078 (ninS (Nat.ne_of_lt lt_b1036_b1044) nin0))
  have f1092 := ((((((((Fx1039_2.ext E1044).ext E1049).ext E1053).other W1060 (Or.inl (Nat.ne_of_lt lt_b1036_b1053))).other W1065 (Or.inl (Nat.ne_of_lt lt_b1036_b1053))).other W1070 (Or.inl (Nat.ne_of_lt lt_b1036_b1053))).other W1075 (Or.inl (Nat.ne_of_lt lt_b1036_b1053))).keep K1078 (ninS (Nat.ne_of_lt lt_b1036_b1044) nin0))
  have f1093 := (f1080.keep K1078)
  have f1094 := (((((((((f1041.keep K1039 (allS g_b1036 all0)).ext E1044).ext E1049).ext E1053).wr W1060 g_b1053).wr W1065 g_b1053).wr W1070 g_b1053).wr W1075 g_b1053).keep K1078 (allS g_b1044 all0))
  have f1095 := (Nat.le_trans (Nat.le_trans (Nat.le_trans (Nat.le_trans (Nat.le_trans (Nat.le_trans f1055 E1053.1) (Keep.of_wr W1060).1) (Keep.of_wr W1065).1) (Keep.of_wr W1070).1) (Keep.of_wr W1075).1) K1078.1)
  obtain ⟨cq1087, kq1087, q1087a, q1087b, q1087c⟩ := isOf hZ rfl f1089
  obtain ⟨_, _, ⟨T1087, L1087, k1087, n1087⟩, -, X1087, ⟨Lc1087, hQ1087, l1087, y1087, z1087⟩, st1087⟩ := X1078.virtualBack hx (y := (⟨"java/util/ArrayList", "add", "(Ljava/lang/Object;)Z"⟩ : MethodName)) (z := (⟨"java/util/ArrayList", "add", "(Ljava/lang/Object;)Z"⟩ : MethodName)) hown (mvT hZ (hw _ (List.mem_of_getElem? (i := 52) rfl))) (mvT hZ (hw _ (List.mem_of_getElem? (i := 53) rfl))) (notFace_of_selects (args := #[]) (mvT hZ (hw _ (List.mem_of_getElem? (i := 55) rfl)))) (mvT hZ (hw _ (List.mem_of_getElem? (i := 55) rfl))) (mvT hZ (hw _ (List.mem_of_getElem? (i := 54) rfl))) (by decide) (backOf (W := 0) (rmA1a l Z a0 hw [] b1036 da b1044 (0 : Int32) kd T1078.heap n0 f1088 f1089 g_b1036 f1090 f1091 f1092 f1094 hSd hAd f1093 (Nat.ne_of_lt lt_b1036_b1044)) hZ (hw _ (List.mem_of_getElem? (i := 56) rfl)) (hw _ (List.mem_of_getElem? (i := 2) rfl)) (by decide) (by decide)) q1087a q1087c (g := (mkF m 44 #[.val (.int p0), .val (.int p1), .val (.int p2), .val (.ref b1036), .unset, .unset, .unset] [(.ref b1044), (.ref b1036)])) rfl (by rw [hml]; rfl) (Steps.refl _) (argsL := [(.ref b1044)]) (rest := []) (lenOf pd_11 rfl) rfl (by show 2 * 0 + _ ≤ _; exact Nat.le_of_eq rfl) (hb hby at_44) (fun _ _ => ⟨rfl, rfl, (by decide : 5 + 1 ≤ _), (by decide : 20 + 10 ≤ _)⟩)
  dsimp only [Pt.U, Pt.locs, Pt.cells, Pt.slots] at X1087 l1087 y1087 z1087 st1087 hQ1087
  obtain rfl : k1087 = 6 := y1087
  obtain rfl : n1087 = 30 := z1087
  obtain ⟨gb1087, kb1087, rfl, N1087q, K1087, hs1087, hg1087, Fx1087_0, Fx1087_1, Fx1087_2, Ab1087, Ov1087⟩ := hQ1087
  have N1087 : Fr n0 L1087 := by rw [l1087]; exact Fr.app N1078 N1087q
  have lt_b1036_gb1087 : b1036 < gb1087 := Nat.lt_of_lt_of_le f1089.lt hs1087
  have lt_b1044_gb1087 : b1044 < gb1087 := Nat.lt_of_lt_of_le f1093.lt hs1087
  have lt_b1053_gb1087 : b1053 < gb1087 := Nat.lt_of_lt_of_le (V1075'.keep K1078 (ninS (Ne.symm (Nat.ne_of_lt lt_b1044_b1053)) nin0)).lt hs1087
  have Fx1087_0x : Fld Z T1087.heap b1036 "java/util/AbstractList" "modCount" "I" (.int (1 : Int32)) := Fx1087_0
  have sz_gb1087 : h0.size ≤ gb1087 := Nat.le_trans f1095 hs1087
  have G1096 : Go p e below A0 (T1087.setTop (mkF m 47 #[.val (.int p0), .val (.int p1), .val (.int p2), .val (.ref b1036), .unset, .unset, .unset] [(.int (1 : Int32))])) := fun tq kq => G1086 tq (st1087.trans kq)
  have G1097 : Go p e below A0 (T1087.setTop (mkF m 49 #[.val (.int p0), .val (.int p1), .val (.int p2), .val (.ref b1036), .unset, .unset, .unset] [(.ref b1036)])) := fun tq kq => G1096 tq (by
    refine XS.pop X1087.here hx rfl (hb hby at_47) rfl rfl ?_
    show Steps p.tables e below (T1087.setTop (mkF m 48 #[.val (.int p0), .val (.int p1), .val (.int p2), .val (.ref b1036), .unset, .unset, .unset] [])) _
    refine XS.aloadN X1087.here hx rfl (hb hby at_48) rfl rfl ?_
    show Steps p.tables e below (T1087.setTop (mkF m 49 #[.val (.int p0), .val (.int p1), .val (.int p2), .val (.ref b1036), .unset, .unset, .unset] [(.ref b1036)])) _
    exact kq)
  have f1099 := (Nat.le_trans f1088 K1087.1)
  obtain ⟨T1098, h1098, X1098, e1098, E1098, A1098, D1098, -, st1098⟩ := newO X1087 hx hZ hown (hw _ (List.mem_of_getElem? (i := 26) rfl)) (hw _ (List.mem_of_getElem? (i := 27) rfl)) (hw _ (List.mem_of_getElem? (i := 28) rfl)) rfl (g := (mkF m 49 #[.val (.int p0), .val (.int p1), .val (.int p2), .val (.ref b1036), .unset, .unset, .unset] [(.ref b1036)])) rfl (hb hby at_49) (by decide) (by decide)
  obtain ⟨b1098, g1098⟩ : ∃ z, z = T1087.heap.size := ⟨_, rfl⟩
  rw [← g1098] at A1098 D1098 st1098
  have f1100 := (Nat.le_trans f1095 K1087.1)
  have sz_b1098 : h0.size ≤ b1098 := Nat.le_trans f1100 (Nat.le_of_eq g1098.symm)
  have g_b1098 : n0 ≤ b1098 := Nat.le_trans f1099 (Nat.le_of_eq g1098.symm)
  have lt_b1036_b1098 : b1036 < b1098 := Nat.lt_of_lt_of_le (f1089.keep K1087).lt (Nat.le_of_eq g1098.symm)
  have lt_b1044_b1098 : b1044 < b1098 := Nat.lt_of_lt_of_le (f1093.keep K1087).lt (Nat.le_of_eq g1098.symm)
  have lt_b1053_b1098 : b1053 < b1098 := Nat.lt_of_lt_of_le ((V1075'.keep K1078 (ninS (Ne.symm (Nat.ne_of_lt lt_b1044_b1053)) nin0)).keep K1087 (ninS (Ne.symm (Nat.ne_of_lt lt_b1036_b1053)) nin0)).lt (Nat.le_of_eq g1098.symm)
  have lt_gb1087_b1098 : gb1087 < b1098 := Nat.lt_of_lt_of_le Ab1087.lt (Nat.le_of_eq g1098.symm)
  have F1098_owner : Fld Z h1098 b1098 "com/example/ludarc/ludarc/engine/Variable" "owner" "Lcom/example/ludarc/ludarc/engine/Network$Builder;" .null := D1098 (Or.inr (hw _ (List.mem_of_getElem? (i := 43) rfl))) (ty := (.object "com/example/ludarc/ludarc/engine/Network$Builder")) (by decide)
  have F1098_index : Fld Z h1098 b1098 "com/example/ludarc/ludarc/engine/Variable" "index" "I" (.int (0 : Int32)) := D1098 (Or.inr (hw _ (List.mem_of_getElem? (i := 45) rfl))) (ty := .int) (by decide)
  have F1098_name : Fld Z h1098 b1098 "com/example/ludarc/ludarc/engine/Variable" "name" "Ljava/lang/String;" .null := D1098 (Or.inr (hw _ (List.mem_of_getElem? (i := 47) rfl))) (ty := (.object "java/lang/String")) (by decide)
  have F1098_values : Fld Z h1098 b1098 "com/example/ludarc/ludarc/engine/Variable" "values" "[I" .null := D1098 (Or.inr (hw _ (List.mem_of_getElem? (i := 49) rfl))) (ty := (.array .int)) (by decide)
  have F1098_probabilities : Fld Z h1098 b1098 "com/example/ludarc/ludarc/engine/Variable" "probabilities" "[D" .null := D1098 (Or.inr (hw _ (List.mem_of_getElem? (i := 51) rfl))) (ty := (.array .double)) (by decide)
  have G1101 : Go p e below A0 (T1098.setTop (mkF m 52 #[.val (.int p0), .val (.int p1), .val (.int p2), .val (.ref b1036), .unset, .unset, .unset] [(.ref b1098), (.ref b1036)])) := fun tq kq => G1097 tq (st1098 _ kq)
  have G1102 : Go p e below A0 (T1098.setTop (mkF m 55 #[.val (.int p0), .val (.int p1), .val (.int p2), .val (.ref b1036), .unset, .unset, .unset] [(.int (1 : Int32)), .null, (.ref b1098), (.ref b1098), (.ref b1036)])) := fun tq kq => G1101 tq (by
    refine XS.dup X1098.here hx rfl (hb hby at_52) rfl rfl ?_
    show Steps p.tables e below (T1098.setTop (mkF m 53 #[.val (.int p0), .val (.int p1), .val (.int p2), .val (.ref b1036), .unset, .unset, .unset] [(.ref b1098), (.ref b1098), (.ref b1036)])) _
    refine XS.aconstNull X1098.here hx rfl (hb hby at_53) ?_
    show Steps p.tables e below (T1098.setTop (mkF m 54 #[.val (.int p0), .val (.int p1), .val (.int p2), .val (.ref b1036), .unset, .unset, .unset] [.null, (.ref b1098), (.ref b1098), (.ref b1036)])) _
    refine XS.iconst X1098.here hx rfl (hb hby at_54) ?_
    show Steps p.tables e below (T1098.setTop (mkF m 55 #[.val (.int p0), .val (.int p1), .val (.int p2), .val (.ref b1036), .unset, .unset, .unset] [(.int (1 : Int32)), .null, (.ref b1098), (.ref b1098), (.ref b1036)])) _
    exact kq)
  have f1104 := (Nat.le_trans (Nat.le_trans (Nat.le_trans (Nat.le_trans (Nat.le_trans (Nat.le_trans (Nat.le_trans (Nat.le_trans hk1049 E1053.1) (Keep.of_wr W1060).1) (Keep.of_wr W1065).1) (Keep.of_wr W1070).1) (Keep.of_wr W1075).1) K1078.1) K1087.1) E1098.1)
  obtain ⟨a1103, T1103, h1103, k1103, X1103, e1103, E1103, hS, hk1103, hZ, hown, st1103⟩ := ldcS (s := s) (vm0 := T1049.vm) X1098 hx hZ hown (hw _ (List.mem_of_getElem? (i := 83) rfl)) hstr e1098 hS f1104 (g := (mkF m 55 #[.val (.int p0), .val (.int p1), .val (.int p2), .val (.ref b1036), .unset, .unset, .unset] [(.int (1 : Int32)), .null, (.ref b1098), (.ref b1098), (.ref b1036)])) rfl (hb hby at_55) (n := 4) (by decide) (by decide) (by decide) (by decide)
  have G1105 : Go p e below A0 (T1103.setTop (mkF m 57 #[.val (.int p0), .val (.int p1), .val (.int p2), .val (.ref b1036), .unset, .unset, .unset] [(.ref a1103), (.int (1 : Int32)), .null, (.ref b1098), (.ref b1098), (.ref b1036)])) := fun tq kq => G1102 tq (st1103 _ kq)
  have G1106 : Go p e below A0 (T1103.setTop (mkF m 58 #[.val (.int p0), .val (.int p1), .val (.int p2), .val (.ref b1036), .unset, .unset, .unset] [(.int (2 : Int32)), (.ref a1103), (.int (1 : Int32)), .null, (.ref b1098), (.ref b1098), (.ref b1036)])) := fun tq kq => G1105 tq (by
    refine XS.iconst X1103.here hx rfl (hb hby at_57) ?_
    show Steps p.tables e below (T1103.setTop (mkF m 58 #[.val (.int p0), .val (.int p1), .val (.int p2), .val (.ref b1036), .unset, .unset, .unset] [(.int (2 : Int32)), (.ref a1103), (.int (1 : Int32)), .null, (.ref b1098), (.ref b1098), (.ref b1036)])) _
    exact kq)
  have f1108 := (Nat.le_trans (Nat.le_trans f1099 E1098.1) E1103.1)
  obtain ⟨T1107, h1107, k1107, X1107, e1107, E1107, A1107, st1107⟩ := newP X1103 hx hZ (hw _ (List.mem_of_getElem? (i := 37) rfl)) e1103 (g := (mkF m 58 #[.val (.int p0), .val (.int p1), .val (.int p2), .val (.ref b1036), .unset, .unset, .unset] [(.int (2 : Int32)), (.ref a1103), (.int (1 : Int32)), .null, (.ref b1098), (.ref b1098), (.ref b1036)])) rfl (hb hby at_58) rfl (by decide) (cap := 2) (by decide) (by decide) (by decide) (by decide)
  obtain ⟨b1107, g1107⟩ : ∃ z, z = h1103.size := ⟨_, rfl⟩
  rw [← g1107] at A1107 st1107
  have f1109 := (Nat.le_trans (Nat.le_trans f1100 E1098.1) E1103.1)
  have sz_b1107 : h0.size ≤ b1107 := Nat.le_trans f1109 (Nat.le_of_eq g1107.symm)
  have g_b1107 : n0 ≤ b1107 := Nat.le_trans f1108 (Nat.le_of_eq g1107.symm)
  have lt_b1036_b1107 : b1036 < b1107 := Nat.lt_of_lt_of_le (((f1089.keep K1087).ext E1098).ext E1103).lt (Nat.le_of_eq g1107.symm)
  have lt_b1044_b1107 : b1044 < b1107 := Nat.lt_of_lt_of_le (((f1093.keep K1087).ext E1098).ext E1103).lt (Nat.le_of_eq g1107.symm)
  have lt_b1053_b1107 : b1053 < b1107 := Nat.lt_of_lt_of_le ((((V1075'.keep K1078 (ninS (Ne.symm (Nat.ne_of_lt lt_b1044_b1053)) nin0)).keep K1087 (ninS (Ne.symm (Nat.ne_of_lt lt_b1036_b1053)) nin0)).ext E1098).ext E1103).lt (Nat.le_of_eq g1107.symm)
  have lt_gb1087_b1107 : gb1087 < b1107 := Nat.lt_of_lt_of_le ((Ab1087.ext E1098).ext E1103).lt (Nat.le_of_eq g1107.symm)
  have lt_b1098_b1107 : b1098 < b1107 := Nat.lt_of_lt_of_le (A1098.ext E1103).lt (Nat.le_of_eq g1107.symm)
  have V1107 : Arv Z h1107 b1107 k1107 .int (2 : Int32) [(.int (0 : Int32)), (.int (0 : Int32))] (.int (0 : Int32)) := (Arv.new A1107 (by decide)).pad (pad_rep [] (.int (0 : Int32)) 2)
  have G1110 : Go p e below A0 (T1107.setTop (mkF m 60 #[.val (.int p0), .val (.int p1), .val (.int p2), .val (.ref b1036), .unset, .unset, .unset] [(.ref b1107), (.ref a1103), (.int (1 : Int32)), .null, (.ref b1098), (.ref b1098), (.ref b1036)])) := fun tq kq => G1106 tq (st1107 _ kq)
  have G1111 : Go p e below A0 (T1107.setTop (mkF m 63 #[.val (.int p0), .val (.int p1), .val (.int p2), .val (.ref b1036), .unset, .unset, .unset] [(.int (5 : Int32)), (.int (0 : Int32)), (.ref b1107), (.ref b1107), (.ref a1103), (.int (1 : Int32)), .null, (.ref b1098), (.ref b1098), (.ref b1036)])) := fun tq kq => G1110 tq (by
    refine XS.dup X1107.here hx rfl (hb hby at_60) rfl rfl ?_
    show Steps p.tables e below (T1107.setTop (mkF m 61 #[.val (.int p0), .val (.int p1), .val (.int p2), .val (.ref b1036), .unset, .unset, .unset] [(.ref b1107), (.ref b1107), (.ref a1103), (.int (1 : Int32)), .null, (.ref b1098), (.ref b1098), (.ref b1036)])) _
    refine XS.iconst X1107.here hx rfl (hb hby at_61) ?_
    show Steps p.tables e below (T1107.setTop (mkF m 62 #[.val (.int p0), .val (.int p1), .val (.int p2), .val (.ref b1036), .unset, .unset, .unset] [(.int (0 : Int32)), (.ref b1107), (.ref b1107), (.ref a1103), (.int (1 : Int32)), .null, (.ref b1098), (.ref b1098), (.ref b1036)])) _
    refine XS.iconst X1107.here hx rfl (hb hby at_62) ?_
    show Steps p.tables e below (T1107.setTop (mkF m 63 #[.val (.int p0), .val (.int p1), .val (.int p2), .val (.ref b1036), .unset, .unset, .unset] [(.int (5 : Int32)), (.int (0 : Int32)), (.ref b1107), (.ref b1107), (.ref a1103), (.int (1 : Int32)), .null, (.ref b1098), (.ref b1098), (.ref b1036)])) _
    exact kq)
  obtain ⟨cl1112, Ar1112, q1112, S1112, M1112, H1112, Gf1112⟩ := id V1107
  have hi1113 : ¬ ((0 : Int32) < 0 ∨ cl1112.slots.size ≤ ((0 : Int32)).toNatClampNeg) := (inb_of S1112 ⟨by decide, by decide⟩)
  obtain ⟨T1114, h1114, X1114, e1114, W1114, st1114⟩ := stI X1107 hx hZ e1107 Ar1112 (j := (0 : Int32)) hi1113 (g := (mkF m 63 #[.val (.int p0), .val (.int p1), .val (.int p2), .val (.ref b1036), .unset, .unset, .unset] [(.int (5 : Int32)), (.int (0 : Int32)), (.ref b1107), (.ref b1107), (.ref a1103), (.int (1 : Int32)), .null, (.ref b1098), (.ref b1098), (.ref b1036)])) rfl rfl (hb hby at_63)
  have N1114 := Fr.snoc X1114 N1087 g_b1107
  have V1114 := Arv.set Ar1112 q1112 S1112 M1112 H1112 Gf1112 rfl W1114 0 rfl (Nat.le_of_ble_eq_true rfl)
  have V1114' : Arv Z h1114 b1107 k1107 .int (2 : Int32) [(.int (5 : Int32)), (.int (0 : Int32))] (.int (0 : Int32)) := by exact V1114
  have G1115 : Go p e below A0 (T1114.setTop (mkF m 64 #[.val (.int p0), .val (.int p1), .val (.int p2), .val (.ref b1036), .unset, .unset, .unset] [(.ref b1107), (.ref a1103), (.int (1 : Int32)), .null, (.ref b1098), (.ref b1098), (.ref b1036)])) := fun tq kq => G1111 tq (st1114 _ kq)
  have G1116 : Go p e below A0 (T1114.setTop (mkF m 68 #[.val (.int p0), .val (.int p1), .val (.int p2), .val (.ref b1036), .unset, .unset, .unset] [(.int (6 : Int32)), (.int (1 : Int32)), (.ref b1107), (.ref b1107), (.ref a1103), (.int (1 : Int32)), .null, (.ref b1098), (.ref b1098), (.ref b1036)])) := fun tq kq => G1115 tq (by
    refine XS.dup X1114.here hx rfl (hb hby at_64) rfl rfl ?_
    show Steps p.tables e below (T1114.setTop (mkF m 65 #[.val (.int p0), .val (.int p1), .val (.int p2), .val (.ref b1036), .unset, .unset, .unset] [(.ref b1107), (.ref b1107), (.ref a1103), (.int (1 : Int32)), .null, (.ref b1098), (.ref b1098), (.ref b1036)])) _
    refine XS.iconst X1114.here hx rfl (hb hby at_65) ?_
    show Steps p.tables e below (T1114.setTop (mkF m 66 #[.val (.int p0), .val (.int p1), .val (.int p2), .val (.ref b1036), .unset, .unset, .unset] [(.int (1 : Int32)), (.ref b1107), (.ref b1107), (.ref a1103), (.int (1 : Int32)), .null, (.ref b1098), (.ref b1098), (.ref b1036)])) _
    refine XS.bipush X1114.here hx rfl (hb hby at_66) ?_
    show Steps p.tables e below (T1114.setTop (mkF m 68 #[.val (.int p0), .val (.int p1), .val (.int p2), .val (.ref b1036), .unset, .unset, .unset] [(.int (6 : Int32)), (.int (1 : Int32)), (.ref b1107), (.ref b1107), (.ref a1103), (.int (1 : Int32)), .null, (.ref b1098), (.ref b1098), (.ref b1036)])) _
    exact kq)
  obtain ⟨cl1117, Ar1117, q1117, S1117, M1117, H1117, Gf1117⟩ := id V1114'
  have hi1118 : ¬ ((1 : Int32) < 0 ∨ cl1117.slots.size ≤ ((1 : Int32)).toNatClampNeg) := (inb_of S1117 ⟨by decide, by decide⟩)
  obtain ⟨T1119, h1119, X1119, e1119, W1119, st1119⟩ := stI X1114 hx hZ e1114 Ar1117 (j := (1 : Int32)) hi1118 (g := (mkF m 68 #[.val (.int p0), .val (.int p1), .val (.int p2), .val (.ref b1036), .unset, .unset, .unset] [(.int (6 : Int32)), (.int (1 : Int32)), (.ref b1107), (.ref b1107), (.ref a1103), (.int (1 : Int32)), .null, (.ref b1098), (.ref b1098), (.ref b1036)])) rfl rfl (hb hby at_68)
  have N1119 := Fr.snoc X1119 N1114 g_b1107
  have V1119 := Arv.set Ar1117 q1117 S1117 M1117 H1117 Gf1117 rfl W1119 1 rfl (Nat.le_of_ble_eq_true rfl)
  have V1119' : Arv Z h1119 b1107 k1107 .int (2 : Int32) [(.int (5 : Int32)), (.int (6 : Int32))] (.int (0 : Int32)) := by exact V1119
  have G1120 : Go p e below A0 (T1119.setTop (mkF m 69 #[.val (.int p0), .val (.int p1), .val (.int p2), .val (.ref b1036), .unset, .unset, .unset] [(.ref b1107), (.ref a1103), (.int (1 : Int32)), .null, (.ref b1098), (.ref b1098), (.ref b1036)])) := fun tq kq => G1116 tq (st1119 _ kq)
  have G1121 : Go p e below A0 (T1119.setTop (mkF m 70 #[.val (.int p0), .val (.int p1), .val (.int p2), .val (.ref b1036), .unset, .unset, .unset] [.null, (.ref b1107), (.ref a1103), (.int (1 : Int32)), .null, (.ref b1098), (.ref b1098), (.ref b1036)])) := fun tq kq => G1120 tq (by
    refine XS.aconstNull X1119.here hx rfl (hb hby at_69) ?_
    show Steps p.tables e below (T1119.setTop (mkF m 70 #[.val (.int p0), .val (.int p1), .val (.int p2), .val (.ref b1036), .unset, .unset, .unset] [.null, (.ref b1107), (.ref a1103), (.int (1 : Int32)), .null, (.ref b1098), (.ref b1098), (.ref b1036)])) _
    exact kq)
  have f1123 := (Nat.le_trans (Nat.le_trans (Nat.le_trans f1108 E1107.1) (Keep.of_wr W1114).1) (Keep.of_wr W1119).1)
  have f1124 := ((((A1098.ext E1103).ext E1107).wr W1114).wr W1119)
  have f1125 := ((((F1098_owner.ext E1103).ext E1107).other W1114 (Or.inl (Nat.ne_of_lt lt_b1098_b1107))).other W1119 (Or.inl (Nat.ne_of_lt lt_b1098_b1107)))
  have f1126 := ((((F1098_index.ext E1103).ext E1107).other W1114 (Or.inl (Nat.ne_of_lt lt_b1098_b1107))).other W1119 (Or.inl (Nat.ne_of_lt lt_b1098_b1107)))
  have f1127 := ((((F1098_name.ext E1103).ext E1107).other W1114 (Or.inl (Nat.ne_of_lt lt_b1098_b1107))).other W1119 (Or.inl (Nat.ne_of_lt lt_b1098_b1107)))
  have f1128 := ((((F1098_values.ext E1103).ext E1107).other W1114 (Or.inl (Nat.ne_of_lt lt_b1098_b1107))).other W1119 (Or.inl (Nat.ne_of_lt lt_b1098_b1107)))
  have f1129 := ((((F1098_probabilities.ext E1103).ext E1107).other W1114 (Or.inl (Nat.ne_of_lt lt_b1098_b1107))).other W1119 (Or.inl (Nat.ne_of_lt lt_b1098_b1107)))
  obtain ⟨_, _, ⟨T1122, L1122, k1122, n1122⟩, -, X1122, ⟨Lc1122, hQ1122, l1122, y1122, z1122⟩, st1122⟩ := X1119.specialBack hx (y := (⟨"com/example/ludarc/ludarc/engine/Variable", "<init>", "(Lcom/example/ludarc/ludarc/engine/Network$Builder;ILjava/lang/String;[I[D)V"⟩ : MethodName)) rfl hown (mvT hZ (hw _ (List.mem_of_getElem? (i := 38) rfl))) (mvT hZ (hw _ (List.mem_of_getElem? (i := 39) rfl))) (mvT hZ (hw _ (List.mem_of_getElem? (i := 40) rfl))) (by decide) (backOf (W := 2) (rm5 l Z a0 hw [] b1098 b1107 a1103 (1 : Int32) h1119 n0 f1123 f1124 g_b1098 f1125 f1126 f1127 f1128 f1129) hZ (hw _ (List.mem_of_getElem? (i := 40) rfl)) (hw _ (List.mem_of_getElem? (i := 28) rfl)) (by decide) (by decide)) (g := (mkF m 70 #[.val (.int p0), .val (.int p1), .val (.int p2), .val (.ref b1036), .unset, .unset, .unset] [.null, (.ref b1107), (.ref a1103), (.int (1 : Int32)), .null, (.ref b1098), (.ref b1098), (.ref b1036)])) rfl (by rw [hml]; rfl) (Steps.refl _) (a := b1098) (argsL := [.null, (.int (1 : Int32)), (.ref a1103), (.ref b1107), .null]) (rest := [(.ref b1098), (.ref b1036)]) (lenOf pd_10 rfl) rfl (by show 2 * 0 + _ ≤ _; exact Nat.le_of_eq rfl) (hb hby at_70) (fun _ _ => ⟨rfl, e1119, (by decide : 10 + 0 ≤ _), (by decide : 45 + 0 ≤ _)⟩)
  dsimp only [Pt.U, Pt.locs, Pt.cells, Pt.slots] at X1122 l1122 y1122 z1122 st1122 hQ1122
  obtain rfl : k1122 = 10 := y1122
  obtain rfl : n1122 = 45 := z1122
  obtain ⟨rfl, N1122q, K1122, Fv1122⟩ := hQ1122
  have N1122 : Fr n0 L1122 := by rw [l1122]; exact Fr.app N1119 N1122q
  have G1130 : Go p e below A0 (T1122.setTop (mkF m 73 #[.val (.int p0), .val (.int p1), .val (.int p2), .val (.ref b1036), .unset, .unset, .unset] [(.ref b1098), (.ref b1036)])) := fun tq kq => G1121 tq (st1122.trans kq)
  have f1132 := (Nat.le_trans f1123 K1122.1)
  have f1133 := (((((((f1089.keep K1087).ext E1098).ext E1103).ext E1107).wr W1114).wr W1119).keep K1122)
  have f1134 := ((((((Fx1087_0x.ext E1098).ext E1103).ext E1107).other W1114 (Or.inl (Nat.ne_of_lt lt_b1036_b1107))).other W1119 (Or.inl (Nat.ne_of_lt lt_b1036_b1107))).keep K1122 (ninS (Nat.ne_of_lt lt_b1036_b1098) nin0))
  have f1135 := ((((((Fx1087_1.ext E1098).ext E1103).ext E1107).other W1114 (Or.inl (Nat.ne_of_lt lt_b1036_b1107))).other W1119 (Or.inl (Nat.ne_of_lt lt_b1036_b1107))).keep K1122 (ninS (Nat.ne_of_lt lt_b1036_b1098) nin0))
  have f1136 := ((((((Fx1087_2.ext E1098).ext E1103).ext E1107).other W1114 (Or.inl (Nat.ne_of_lt lt_b1036_b1107))).other W1119 (Or.inl (Nat.ne_of_lt lt_b1036_b1107))).keep K1122 (ninS (Nat.ne_of_lt lt_b1036_b1098) nin0))
  have f1137 := (f1124.keep K1122)
  have f1138 := ((((((Ab1087.ext E1098).ext E1103).ext E1107).other W1114 (Nat.ne_of_lt lt_gb1087_b1107)).other W1119 (Nat.ne_of_lt lt_gb1087_b1107)).keep K1122 (ninS (Nat.ne_of_lt lt_gb1087_b1098) nin0))
  obtain ⟨cq1131, kq1131, q1131a, q1131b, q1131c⟩ := isOf hZ rfl f1133
  obtain ⟨_, _, ⟨T1131, L1131, k1131, n1131⟩, -, X1131, ⟨Lc1131, hQ1131, l1131, y1131, z1131⟩, st1131⟩ := X1122.virtualBack hx (y := (⟨"java/util/ArrayList", "add", "(Ljava/lang/Object;)Z"⟩ : MethodName)) (z := (⟨"java/util/ArrayList", "add", "(Ljava/lang/Object;)Z"⟩ : MethodName)) hown (mvT hZ (hw _ (List.mem_of_getElem? (i := 52) rfl))) (mvT hZ (hw _ (List.mem_of_getElem? (i := 53) rfl))) (notFace_of_selects (args := #[]) (mvT hZ (hw _ (List.mem_of_getElem? (i := 55) rfl)))) (mvT hZ (hw _ (List.mem_of_getElem? (i := 55) rfl))) (mvT hZ (hw _ (List.mem_of_getElem? (i := 54) rfl))) (by decide) (backOf (W := 0) (rmA1b l Z a0 hw [] b1036 gb1087 b1044 b1098 (1 : Int32) kb1087 T1122.heap n0 f1132 f1133 g_b1036 f1134 f1135 f1136 f1138 Ov1087 hg1087 (Nat.ne_of_lt lt_b1036_gb1087) f1137) hZ (hw _ (List.mem_of_getElem? (i := 56) rfl)) (hw _ (List.mem_of_getElem? (i := 2) rfl)) (by decide) (by decide)) q1131a q1131c (g := (mkF m 73 #[.val (.int p0), .val (.int p1), .val (.int p2), .val (.ref b1036), .unset, .unset, .unset] [(.ref b1098), (.ref b1036)])) rfl (by rw [hml]; rfl) (Steps.refl _) (argsL := [(.ref b1098)]) (rest := []) (lenOf pd_11 rfl) rfl (by show 2 * 0 + _ ≤ _; exact Nat.le_of_eq rfl) (hb hby at_73) (fun _ _ => ⟨rfl, rfl, (by decide : 10 + 0 ≤ _), (by decide : 45 + 0 ≤ _)⟩)
  dsimp only [Pt.U, Pt.locs, Pt.cells, Pt.slots] at X1131 l1131 y1131 z1131 st1131 hQ1131
  obtain rfl : k1131 = 10 := y1131
  obtain rfl : n1131 = 45 := z1131
  obtain ⟨rfl, N1131q, K1131, Fx1131_0, Fx1131_1, Fx1131_2, Ab1131⟩ := hQ1131
  have N1131 : Fr n0 L1131 := by rw [l1131]; exact Fr.app N1122 N1131q
  have Fx1131_0x : Fld Z T1131.heap b1036 "java/util/AbstractList" "modCount" "I" (.int (2 : Int32)) := Fx1131_0
  have G1139 : Go p e below A0 (T1131.setTop (mkF m 76 #[.val (.int p0), .val (.int p1), .val (.int p2), .val (.ref b1036), .unset, .unset, .unset] [(.int (1 : Int32))])) := fun tq kq => G1130 tq (st1131.trans kq)
  have G1140 : Go p e below A0 (T1131.setTop (mkF m 77 #[.val (.int p0), .val (.int p1), .val (.int p2), .val (.ref b1036), .unset, .unset, .unset] [])) := fun tq kq => G1139 tq (by
    refine XS.pop X1131.here hx rfl (hb hby at_76) rfl rfl ?_
    show Steps p.tables e below (T1131.setTop (mkF m 77 #[.val (.int p0), .val (.int p1), .val (.int p2), .val (.ref b1036), .unset, .unset, .unset] [])) _
    exact kq)
  have f1142 := (Nat.le_trans f1132 K1131.1)
  obtain ⟨T1141, h1141, X1141, e1141, E1141, A1141, D1141, -, st1141⟩ := newO X1131 hx hZ hown (hw _ (List.mem_of_getElem? (i := 84) rfl)) (hw _ (List.mem_of_getElem? (i := 85) rfl)) (hw _ (List.mem_of_getElem? (i := 86) rfl)) rfl (g := (mkF m 77 #[.val (.int p0), .val (.int p1), .val (.int p2), .val (.ref b1036), .unset, .unset, .unset] [])) rfl (hb hby at_77) (by decide) (by decide)
  obtain ⟨b1141, g1141⟩ : ∃ z, z = T1131.heap.size := ⟨_, rfl⟩
  rw [← g1141] at A1141 D1141 st1141
  have f1143 := (Nat.le_trans (Nat.le_trans (Nat.le_trans (Nat.le_trans (Nat.le_trans f1109 E1107.1) (Keep.of_wr W1114).1) (Keep.of_wr W1119).1) K1122.1) K1131.1)
  have sz_b1141 : h0.size ≤ b1141 := Nat.le_trans f1143 (Nat.le_of_eq g1141.symm)
  have g_b1141 : n0 ≤ b1141 := Nat.le_trans f1142 (Nat.le_of_eq g1141.symm)
  have lt_b1036_b1141 : b1036 < b1141 := Nat.lt_of_lt_of_le (f1133.keep K1131).lt (Nat.le_of_eq g1141.symm)
  have lt_b1044_b1141 : b1044 < b1141 := Nat.lt_of_lt_of_le ((((((((f1093.keep K1087).ext E1098).ext E1103).ext E1107).wr W1114).wr W1119).keep K1122).keep K1131).lt (Nat.le_of_eq g1141.symm)
  have lt_b1053_b1141 : b1053 < b1141 := Nat.lt_of_lt_of_le (((((((((V1075'.keep K1078 (ninS (Ne.symm (Nat.ne_of_lt lt_b1044_b1053)) nin0)).keep K1087 (ninS (Ne.symm (Nat.ne_of_lt lt_b1036_b1053)) nin0)).ext E1098).ext E1103).ext E1107).other W1114 (Nat.ne_of_lt lt_b1053_b1107)).other W1119 (Nat.ne_of_lt lt_b1053_b1107)).keep K1122 (ninS (Nat.ne_of_lt lt_b1053_b1098) nin0)).keep K1131 (ninS (Ne.symm (Nat.ne_of_lt lt_b1036_b1053)) (ninS (Nat.ne_of_lt lt_b1053_gb1087) nin0))).lt (Nat.le_of_eq g1141.symm)
  have lt_gb1087_b1141 : gb1087 < b1141 := Nat.lt_of_lt_of_le Ab1131.lt (Nat.le_of_eq g1141.symm)
  have lt_b1098_b1141 : b1098 < b1141 := Nat.lt_of_lt_of_le (f1137.keep K1131).lt (Nat.le_of_eq g1141.symm)
  have lt_b1107_b1141 : b1107 < b1141 := Nat.lt_of_lt_of_le ((V1119'.keep K1122 (ninS (Ne.symm (Nat.ne_of_lt lt_b1098_b1107)) nin0)).keep K1131 (ninS (Ne.symm (Nat.ne_of_lt lt_b1036_b1107)) (ninS (Ne.symm (Nat.ne_of_lt lt_gb1087_b1107)) nin0))).lt (Nat.le_of_eq g1141.symm)
  have F1141_round : Fld Z h1141 b1141 "com/example/ludarc/ludarc/engine/Domains" "round" "I" (.int (0 : Int32)) := D1141 (Or.inl (hw _ (List.mem_of_getElem? (i := 92) rfl))) (ty := .int) (by decide)
  have F1141_members : Fld Z h1141 b1141 "com/example/ludarc/ludarc/engine/Domains" "members" "[[I" .null := D1141 (Or.inr (hw _ (List.mem_of_getElem? (i := 105) rfl))) (ty := (.array (.array .int))) (by decide)
  have F1141_positions : Fld Z h1141 b1141 "com/example/ludarc/ludarc/engine/Domains" "positions" "[[I" .null := D1141 (Or.inr (hw _ (List.mem_of_getElem? (i := 107) rfl))) (ty := (.array (.array .int))) (by decide)
  have F1141_sizes : Fld Z h1141 b1141 "com/example/ludarc/ludarc/engine/Domains" "sizes" "[I" .null := D1141 (Or.inr (hw _ (List.mem_of_getElem? (i := 109) rfl))) (ty := (.array .int)) (by decide)
  have F1141_marks : Fld Z h1141 b1141 "com/example/ludarc/ludarc/engine/Domains" "marks" "[[I" .null := D1141 (Or.inr (hw _ (List.mem_of_getElem? (i := 111) rfl))) (ty := (.array (.array .int))) (by decide)
  have G1144 : Go p e below A0 (T1141.setTop (mkF m 80 #[.val (.int p0), .val (.int p1), .val (.int p2), .val (.ref b1036), .unset, .unset, .unset] [(.ref b1141)])) := fun tq kq => G1140 tq (st1141 _ kq)
  have G1145 : Go p e below A0 (T1141.setTop (mkF m 82 #[.val (.int p0), .val (.int p1), .val (.int p2), .val (.ref b1036), .unset, .unset, .unset] [(.ref b1036), (.ref b1141), (.ref b1141)])) := fun tq kq => G1144 tq (by
    refine XS.dup X1141.here hx rfl (hb hby at_80) rfl rfl ?_
    show Steps p.tables e below (T1141.setTop (mkF m 81 #[.val (.int p0), .val (.int p1), .val (.int p2), .val (.ref b1036), .unset, .unset, .unset] [(.ref b1141), (.ref b1141)])) _
    refine XS.aloadN X1141.here hx rfl (hb hby at_81) rfl rfl ?_
    show Steps p.tables e below (T1141.setTop (mkF m 82 #[.val (.int p0), .val (.int p1), .val (.int p2), .val (.ref b1036), .unset, .unset, .unset] [(.ref b1036), (.ref b1141), (.ref b1141)])) _
    exact kq)
  have f1147 := (Nat.le_trans f1142 E1141.1)
  have f1148 := ((f1133.keep K1131).ext E1141)
  have f1149 := (Fx1131_1.ext E1141)
  have f1150 := (Fx1131_2.ext E1141)
  have f1151 := (Ab1131.ext E1141)
  have f1152 := (((((((((f1093.keep K1087).ext E1098).ext E1103).ext E1107).wr W1114).wr W1119).keep K1122).keep K1131).ext E1141)
  have f1153 := (((((((((Fv1078.keep K1087 (ninS (Ne.symm (Nat.ne_of_lt lt_b1036_b1044)) nin0)).ext E1098).ext E1103).ext E1107).other W1114 (Or.inl (Nat.ne_of_lt lt_b1044_b1107))).other W1119 (Or.inl (Nat.ne_of_lt lt_b1044_b1107))).keep K1122 (ninS (Nat.ne_of_lt lt_b1044_b1098) nin0)).keep K1131 (ninS (Ne.symm (Nat.ne_of_lt lt_b1036_b1044)) (ninS (Nat.ne_of_lt lt_b1044_gb1087) nin0))).ext E1141)
  have f1154 := ((((((((((V1075'.keep K1078 (ninS (Ne.symm (Nat.ne_of_lt lt_b1044_b1053)) nin0)).keep K1087 (ninS (Ne.symm (Nat.ne_of_lt lt_b1036_b1053)) nin0)).ext E1098).ext E1103).ext E1107).other W1114 (Nat.ne_of_lt lt_b1053_b1107)).other W1119 (Nat.ne_of_lt lt_b1053_b1107)).keep K1122 (ninS (Nat.ne_of_lt lt_b1053_b1098) nin0)).keep K1131 (ninS (Ne.symm (Nat.ne_of_lt lt_b1036_b1053)) (ninS (Nat.ne_of_lt lt_b1053_gb1087) nin0))).ext E1141)
  have f1155 := ((f1137.keep K1131).ext E1141)
  have f1156 := ((Fv1122.keep K1131 (ninS (Ne.symm (Nat.ne_of_lt lt_b1036_b1098)) (ninS (Ne.symm (Nat.ne_of_lt lt_gb1087_b1098)) nin0))).ext E1141)
  have f1157 := (((V1119'.keep K1122 (ninS (Ne.symm (Nat.ne_of_lt lt_b1098_b1107)) nin0)).keep K1131 (ninS (Ne.symm (Nat.ne_of_lt lt_b1036_b1107)) (ninS (Ne.symm (Nat.ne_of_lt lt_gb1087_b1107)) nin0))).ext E1141)
  have f1158 := (Nat.le_trans f1143 E1141.1)
  obtain ⟨_, _, ⟨T1146, L1146, k1146, n1146⟩, -, X1146, ⟨Lc1146, hQ1146, l1146, y1146, z1146⟩, st1146⟩ := X1141.specialBack hx (y := (⟨"com/example/ludarc/ludarc/engine/Domains", "<init>", "(Ljava/util/List;)V"⟩ : MethodName)) rfl hown (mvT hZ (hw _ (List.mem_of_getElem? (i := 87) rfl))) (mvT hZ (hw _ (List.mem_of_getElem? (i := 88) rfl))) (mvT hZ (hw _ (List.mem_of_getElem? (i := 89) rfl))) (by decide) (backOf (W := 1) (rm11 l Z a0 hw [] b1141 b1036 gb1087 b1044 b1098 b1053 b1107 kb1087 k1053 k1107 [(.int (10 : Int32)), (.int (20 : Int32)), (.int (30 : Int32)), (.int (40 : Int32))] [(.int (5 : Int32)), (.int (6 : Int32))] h1141 n0 f1147 A1141 g_b1141 F1141_round F1141_members F1141_positions F1141_sizes F1141_marks f1148 f1149 f1150 f1151 f1152 f1153 f1154 f1155 f1156 f1157 (Ne.symm (Nat.ne_of_lt lt_b1036_b1141)) (Ne.symm (Nat.ne_of_lt lt_gb1087_b1141)) (Ne.symm (Nat.ne_of_lt lt_b1044_b1141)) (Ne.symm (Nat.ne_of_lt lt_b1098_b1141)) (Ne.symm (Nat.ne_of_lt lt_b1053_b1141)) (Ne.symm (Nat.ne_of_lt lt_b1107_b1141))) hZ (hw _ (List.mem_of_getElem? (i := 89) rfl)) (hw _ (List.mem_of_getElem? (i := 86) rfl)) (by decide) (by decide)) (g := (mkF m 82 #[.val (.int p0), .val (.int p1), .val (.int p2), .val (.ref b1036), .unset, .unset, .unset] [(.ref b1036), (.ref b1141), (.ref b1141)])) rfl (by rw [hml]; rfl) (Steps.refl _) (a := b1141) (argsL := [(.ref b1036)]) (rest := [(.ref b1141)]) (lenOf pd_12 rfl) rfl (by show 2 * 0 + _ ≤ _; exact Nat.le_of_eq rfl) (hb hby at_82) (fun _ _ => ⟨rfl, e1141, (by decide : 11 + 10 ≤ _), (by decide : 50 + 26 ≤ _)⟩)
  dsimp only [Pt.U, Pt.locs, Pt.cells, Pt.slots] at X1146 l1146 y1146 z1146 st1146 hQ1146
  obtain rfl : k1146 = 21 := y1146
  obtain rfl : n1146 = 76 := z1146
  obtain ⟨mem_, pos_, siz_, mrk_, m0_, p0_, k0_, m1_, p1_, k1_, rfl, N1146q, K1146, hsm1146, ord1146, dom1146⟩ := hQ1146
  have N1146 : Fr n0 L1146 := by rw [l1146]; exact Fr.app N1131 N1146q
  have G1159 : Go p e below A0 (T1146.setTop (mkF m 85 #[.val (.int p0), .val (.int p1), .val (.int p2), .val (.ref b1036), .unset, .unset, .unset] [(.ref b1141)])) := fun tq kq => G1145 tq (st1146.trans kq)
  have G1160 : Go p e below A0 (T1146.setTop (mkF m 88 #[.val (.int p0), .val (.int p1), .val (.int p2), .val (.ref b1036), .val (.ref b1141), .unset, .unset] [(.int (4 : Int32))])) := fun tq kq => G1159 tq (by
    refine XS.astore X1146.here hx rfl (hb hby at_85) rfl rfl (l' := #[.val (.int p0), .val (.int p1), .val (.int p2), .val (.ref b1036), .val (.ref b1141), .unset, .unset]) rfl ?_
    show Steps p.tables e below (T1146.setTop (mkF m 87 #[.val (.int p0), .val (.int p1), .val (.int p2), .val (.ref b1036), .val (.ref b1141), .unset, .unset] [])) _
    refine XS.iconst X1146.here hx rfl (hb hby at_87) ?_
    show Steps p.tables e below (T1146.setTop (mkF m 88 #[.val (.int p0), .val (.int p1), .val (.int p2), .val (.ref b1036), .val (.ref b1141), .unset, .unset] [(.int (4 : Int32))])) _
    exact kq)
  have f1162 := (Nat.le_trans f1147 K1146.1)
  obtain ⟨T1161, h1161, k1161, X1161, e1161, E1161, A1161, st1161⟩ := newP X1146 hx hZ (hw _ (List.mem_of_getElem? (i := 141) rfl)) rfl (g := (mkF m 88 #[.val (.int p0), .val (.int p1), .val (.int p2), .val (.ref b1036), .val (.ref b1141), .unset, .unset] [(.int (4 : Int32))])) rfl (hb hby at_88) rfl (by decide) (cap := 4) (by decide) (by decide) (by decide) (by decide)
  obtain ⟨b1161, g1161⟩ : ∃ z, z = T1146.heap.size := ⟨_, rfl⟩
  rw [← g1161] at A1161 st1161
  have f1163 := (Nat.le_trans f1158 K1146.1)
  have sz_b1161 : h0.size ≤ b1161 := Nat.le_trans f1163 (Nat.le_of_eq g1161.symm)
  have g_b1161 : n0 ≤ b1161 := Nat.le_trans f1162 (Nat.le_of_eq g1161.symm)
  have lt_b1036_b1161 : b1036 < b1161 := Nat.lt_of_lt_of_le (f1148.keep K1146).lt (Nat.le_of_eq g1161.symm)
  have lt_b1044_b1161 : b1044 < b1161 := Nat.lt_of_lt_of_le (f1152.keep K1146).lt (Nat.le_of_eq g1161.symm)
  have lt_b1053_b1161 : b1053 < b1161 := Nat.lt_of_lt_of_le (f1154.keep K1146 (ninS (Nat.ne_of_lt lt_b1053_b1141) nin0)).lt (Nat.le_of_eq g1161.symm)
  have lt_gb1087_b1161 : gb1087 < b1161 := Nat.lt_of_lt_of_le (f1151.keep K1146 (ninS (Nat.ne_of_lt lt_gb1087_b1141) nin0)).lt (Nat.le_of_eq g1161.symm)
  have lt_b1098_b1161 : b1098 < b1161 := Nat.lt_of_lt_of_le (f1155.keep K1146).lt (Nat.le_of_eq g1161.symm)
  have lt_b1107_b1161 : b1107 < b1161 := Nat.lt_of_lt_of_le (f1157.keep K1146 (ninS (Nat.ne_of_lt lt_b1107_b1141) nin0)).lt (Nat.le_of_eq g1161.symm)
  have lt_b1141_b1161 : b1141 < b1161 := Nat.lt_of_lt_of_le (A1141.keep K1146).lt (Nat.le_of_eq g1161.symm)
  have V1161 : Arv Z h1161 b1161 k1161 .boolean (4 : Int32) [(.int (0 : Int32)), (.int (0 : Int32)), (.int (0 : Int32)), (.int (0 : Int32))] (.int (0 : Int32)) := (Arv.new A1161 (by decide)).pad (pad_rep [] (.int (0 : Int32)) 4)
  have G1164 : Go p e below A0 (T1161.setTop (mkF m 90 #[.val (.int p0), .val (.int p1), .val (.int p2), .val (.ref b1036), .val (.ref b1141), .unset, .unset] [(.ref b1161)])) := fun tq kq => G1160 tq (st1161 _ kq)
  have ltk_b1161 : @LT.lt Nat _ k1_ b1161 := Nat.lt_of_lt_of_le (own_domlt dom1146) (Nat.le_of_eq g1161.symm)
  have G1165 : Go p e below A0 (T1161.setTop (mkF m 93 #[.val (.int p0), .val (.int p1), .val (.int p2), .val (.ref b1036), .val (.ref b1141), .unset, .unset] [(.int (1 : Int32)), (.int (0 : Int32)), (.ref b1161), (.ref b1161)])) := fun tq kq => G1164 tq (by
    refine XS.dup X1161.here hx rfl (hb hby at_90) rfl rfl ?_
    show Steps p.tables e below (T1161.setTop (mkF m 91 #[.val (.int p0), .val (.int p1), .val (.int p2), .val (.ref b1036), .val (.ref b1141), .unset, .unset] [(.ref b1161), (.ref b1161)])) _
    refine XS.iconst X1161.here hx rfl (hb hby at_91) ?_
    show Steps p.tables e below (T1161.setTop (mkF m 92 #[.val (.int p0), .val (.int p1), .val (.int p2), .val (.ref b1036), .val (.ref b1141), .unset, .unset] [(.int (0 : Int32)), (.ref b1161), (.ref b1161)])) _
    refine XS.iconst X1161.here hx rfl (hb hby at_92) ?_
    show Steps p.tables e below (T1161.setTop (mkF m 93 #[.val (.int p0), .val (.int p1), .val (.int p2), .val (.ref b1036), .val (.ref b1141), .unset, .unset] [(.int (1 : Int32)), (.int (0 : Int32)), (.ref b1161), (.ref b1161)])) _
    exact kq)
  obtain ⟨cl1166, Ar1166, q1166, S1166, M1166, H1166, Gf1166⟩ := id V1161
  have hi1167 : ¬ ((0 : Int32) < 0 ∨ cl1166.slots.size ≤ ((0 : Int32)).toNatClampNeg) := (inb_of S1166 ⟨by decide, by decide⟩)
  obtain ⟨T1168, h1168, X1168, e1168, W1168, st1168⟩ := stZ X1161 hx hZ e1161 Ar1166 (j := (0 : Int32)) hi1167 (g := (mkF m 93 #[.val (.int p0), .val (.int p1), .val (.int p2), .val (.ref b1036), .val (.ref b1141), .unset, .unset] [(.int (1 : Int32)), (.int (0 : Int32)), (.ref b1161), (.ref b1161)])) rfl rfl (hb hby at_93)
  rw [show nar .boolean (1 : Int32) = (1 : Int32) from by decide] at W1168
  have N1168 := Fr.snoc X1168 N1146 g_b1161
  have V1168 := Arv.set Ar1166 q1166 S1166 M1166 H1166 Gf1166 rfl W1168 0 rfl (Nat.le_of_ble_eq_true rfl)
  have V1168' : Arv Z h1168 b1161 k1161 .boolean (4 : Int32) [(.int (1 : Int32)), (.int (0 : Int32)), (.int (0 : Int32)), (.int (0 : Int32))] (.int (0 : Int32)) := by exact V1168
  have G1169 : Go p e below A0 (T1168.setTop (mkF m 94 #[.val (.int p0), .val (.int p1), .val (.int p2), .val (.ref b1036), .val (.ref b1141), .unset, .unset] [(.ref b1161)])) := fun tq kq => G1165 tq (st1168 _ kq)
  have G1170 : Go p e below A0 (T1168.setTop (mkF m 97 #[.val (.int p0), .val (.int p1), .val (.int p2), .val (.ref b1036), .val (.ref b1141), .unset, .unset] [(.int (1 : Int32)), (.int (1 : Int32)), (.ref b1161), (.ref b1161)])) := fun tq kq => G1169 tq (by
    refine XS.dup X1168.here hx rfl (hb hby at_94) rfl rfl ?_
    show Steps p.tables e below (T1168.setTop (mkF m 95 #[.val (.int p0), .val (.int p1), .val (.int p2), .val (.ref b1036), .val (.ref b1141), .unset, .unset] [(.ref b1161), (.ref b1161)])) _
    refine XS.iconst X1168.here hx rfl (hb hby at_95) ?_
    show Steps p.tables e below (T1168.setTop (mkF m 96 #[.val (.int p0), .val (.int p1), .val (.int p2), .val (.ref b1036), .val (.ref b1141), .unset, .unset] [(.int (1 : Int32)), (.ref b1161), (.ref b1161)])) _
    refine XS.iconst X1168.here hx rfl (hb hby at_96) ?_
    show Steps p.tables e below (T1168.setTop (mkF m 97 #[.val (.int p0), .val (.int p1), .val (.int p2), .val (.ref b1036), .val (.ref b1141), .unset, .unset] [(.int (1 : Int32)), (.int (1 : Int32)), (.ref b1161), (.ref b1161)])) _
    exact kq)
  obtain ⟨cl1171, Ar1171, q1171, S1171, M1171, H1171, Gf1171⟩ := id V1168'
  have hi1172 : ¬ ((1 : Int32) < 0 ∨ cl1171.slots.size ≤ ((1 : Int32)).toNatClampNeg) := (inb_of S1171 ⟨by decide, by decide⟩)
  obtain ⟨T1173, h1173, X1173, e1173, W1173, st1173⟩ := stZ X1168 hx hZ e1168 Ar1171 (j := (1 : Int32)) hi1172 (g := (mkF m 97 #[.val (.int p0), .val (.int p1), .val (.int p2), .val (.ref b1036), .val (.ref b1141), .unset, .unset] [(.int (1 : Int32)), (.int (1 : Int32)), (.ref b1161), (.ref b1161)])) rfl rfl (hb hby at_97)
  rw [show nar .boolean (1 : Int32) = (1 : Int32) from by decide] at W1173
  have N1173 := Fr.snoc X1173 N1168 g_b1161
  have V1173 := Arv.set Ar1171 q1171 S1171 M1171 H1171 Gf1171 rfl W1173 1 rfl (Nat.le_of_ble_eq_true rfl)
  have V1173' : Arv Z h1173 b1161 k1161 .boolean (4 : Int32) [(.int (1 : Int32)), (.int (1 : Int32)), (.int (0 : Int32)), (.int (0 : Int32))] (.int (0 : Int32)) := by exact V1173
  have G1174 : Go p e below A0 (T1173.setTop (mkF m 98 #[.val (.int p0), .val (.int p1), .val (.int p2), .val (.ref b1036), .val (.ref b1141), .unset, .unset] [(.ref b1161)])) := fun tq kq => G1170 tq (st1173 _ kq)
  have G1175 : Go p e below A0 (T1173.setTop (mkF m 101 #[.val (.int p0), .val (.int p1), .val (.int p2), .val (.ref b1036), .val (.ref b1141), .unset, .unset] [(.int (1 : Int32)), (.int (2 : Int32)), (.ref b1161), (.ref b1161)])) := fun tq kq => G1174 tq (by
    refine XS.dup X1173.here hx rfl (hb hby at_98) rfl rfl ?_
    show Steps p.tables e below (T1173.setTop (mkF m 99 #[.val (.int p0), .val (.int p1), .val (.int p2), .val (.ref b1036), .val (.ref b1141), .unset, .unset] [(.ref b1161), (.ref b1161)])) _
    refine XS.iconst X1173.here hx rfl (hb hby at_99) ?_
    show Steps p.tables e below (T1173.setTop (mkF m 100 #[.val (.int p0), .val (.int p1), .val (.int p2), .val (.ref b1036), .val (.ref b1141), .unset, .unset] [(.int (2 : Int32)), (.ref b1161), (.ref b1161)])) _
    refine XS.iconst X1173.here hx rfl (hb hby at_100) ?_
    show Steps p.tables e below (T1173.setTop (mkF m 101 #[.val (.int p0), .val (.int p1), .val (.int p2), .val (.ref b1036), .val (.ref b1141), .unset, .unset] [(.int (1 : Int32)), (.int (2 : Int32)), (.ref b1161), (.ref b1161)])) _
    exact kq)
  obtain ⟨cl1176, Ar1176, q1176, S1176, M1176, H1176, Gf1176⟩ := id V1173'
  have hi1177 : ¬ ((2 : Int32) < 0 ∨ cl1176.slots.size ≤ ((2 : Int32)).toNatClampNeg) := (inb_of S1176 ⟨by decide, by decide⟩)
  obtain ⟨T1178, h1178, X1178, e1178, W1178, st1178⟩ := stZ X1173 hx hZ e1173 Ar1176 (j := (2 : Int32)) hi1177 (g := (mkF m 101 #[.val (.int p0), .val (.int p1), .val (.int p2), .val (.ref b1036), .val (.ref b1141), .unset, .unset] [(.int (1 : Int32)), (.int (2 : Int32)), (.ref b1161), (.ref b1161)])) rfl rfl (hb hby at_101)
  rw [show nar .boolean (1 : Int32) = (1 : Int32) from by decide] at W1178
  have N1178 := Fr.snoc X1178 N1173 g_b1161
  have V1178 := Arv.set Ar1176 q1176 S1176 M1176 H1176 Gf1176 rfl W1178 2 rfl (Nat.le_of_ble_eq_true rfl)
  have V1178' : Arv Z h1178 b1161 k1161 .boolean (4 : Int32) [(.int (1 : Int32)), (.int (1 : Int32)), (.int (1 : Int32)), (.int (0 : Int32))] (.int (0 : Int32)) := by exact V1178
  have G1179 : Go p e below A0 (T1178.setTop (mkF m 102 #[.val (.int p0), .val (.int p1), .val (.int p2), .val (.ref b1036), .val (.ref b1141), .unset, .unset] [(.ref b1161)])) := fun tq kq => G1175 tq (st1178 _ kq)
  have G1180 : Go p e below A0 (T1178.setTop (mkF m 105 #[.val (.int p0), .val (.int p1), .val (.int p2), .val (.ref b1036), .val (.ref b1141), .unset, .unset] [(.int (1 : Int32)), (.int (3 : Int32)), (.ref b1161), (.ref b1161)])) := fun tq kq => G1179 tq (by
    refine XS.dup X1178.here hx rfl (hb hby at_102) rfl rfl ?_
    show Steps p.tables e below (T1178.setTop (mkF m 103 #[.val (.int p0), .val (.int p1), .val (.int p2), .val (.ref b1036), .val (.ref b1141), .unset, .unset] [(.ref b1161), (.ref b1161)])) _
    refine XS.iconst X1178.here hx rfl (hb hby at_103) ?_
    show Steps p.tables e below (T1178.setTop (mkF m 104 #[.val (.int p0), .val (.int p1), .val (.int p2), .val (.ref b1036), .val (.ref b1141), .unset, .unset] [(.int (3 : Int32)), (.ref b1161), (.ref b1161)])) _
    refine XS.iconst X1178.here hx rfl (hb hby at_104) ?_
    show Steps p.tables e below (T1178.setTop (mkF m 105 #[.val (.int p0), .val (.int p1), .val (.int p2), .val (.ref b1036), .val (.ref b1141), .unset, .unset] [(.int (1 : Int32)), (.int (3 : Int32)), (.ref b1161), (.ref b1161)])) _
    exact kq)
  obtain ⟨cl1181, Ar1181, q1181, S1181, M1181, H1181, Gf1181⟩ := id V1178'
  have hi1182 : ¬ ((3 : Int32) < 0 ∨ cl1181.slots.size ≤ ((3 : Int32)).toNatClampNeg) := (inb_of S1181 ⟨by decide, by decide⟩)
  obtain ⟨T1183, h1183, X1183, e1183, W1183, st1183⟩ := stZ X1178 hx hZ e1178 Ar1181 (j := (3 : Int32)) hi1182 (g := (mkF m 105 #[.val (.int p0), .val (.int p1), .val (.int p2), .val (.ref b1036), .val (.ref b1141), .unset, .unset] [(.int (1 : Int32)), (.int (3 : Int32)), (.ref b1161), (.ref b1161)])) rfl rfl (hb hby at_105)
  rw [show nar .boolean (1 : Int32) = (1 : Int32) from by decide] at W1183
  have N1183 := Fr.snoc X1183 N1178 g_b1161
  have V1183 := Arv.set Ar1181 q1181 S1181 M1181 H1181 Gf1181 rfl W1183 3 rfl (Nat.le_of_ble_eq_true rfl)
  have V1183' : Arv Z h1183 b1161 k1161 .boolean (4 : Int32) [(.int (1 : Int32)), (.int (1 : Int32)), (.int (1 : Int32)), (.int (1 : Int32))] (.int (0 : Int32)) := by exact V1183
  have G1184 : Go p e below A0 (T1183.setTop (mkF m 106 #[.val (.int p0), .val (.int p1), .val (.int p2), .val (.ref b1036), .val (.ref b1141), .unset, .unset] [(.ref b1161)])) := fun tq kq => G1180 tq (st1183 _ kq)
  have G1185 : Go p e below A0 (T1183.setTop (mkF m 109 #[.val (.int p0), .val (.int p1), .val (.int p2), .val (.ref b1036), .val (.ref b1141), .val (.ref b1161), .unset] [(.int (2 : Int32))])) := fun tq kq => G1184 tq (by
    refine XS.astore X1183.here hx rfl (hb hby at_106) rfl rfl (l' := #[.val (.int p0), .val (.int p1), .val (.int p2), .val (.ref b1036), .val (.ref b1141), .val (.ref b1161), .unset]) rfl ?_
    show Steps p.tables e below (T1183.setTop (mkF m 108 #[.val (.int p0), .val (.int p1), .val (.int p2), .val (.ref b1036), .val (.ref b1141), .val (.ref b1161), .unset] [])) _
    refine XS.iconst X1183.here hx rfl (hb hby at_108) ?_
    show Steps p.tables e below (T1183.setTop (mkF m 109 #[.val (.int p0), .val (.int p1), .val (.int p2), .val (.ref b1036), .val (.ref b1141), .val (.ref b1161), .unset] [(.int (2 : Int32))])) _
    exact kq)
  have f1187 := (Nat.le_trans (Nat.le_trans (Nat.le_trans (Nat.le_trans (Nat.le_trans f1162 E1161.1) (Keep.of_wr W1168).1) (Keep.of_wr W1173).1) (Keep.of_wr W1178).1) (Keep.of_wr W1183).1)
  obtain ⟨T1186, h1186, k1186, X1186, e1186, E1186, A1186, st1186⟩ := newP X1183 hx hZ (hw _ (List.mem_of_getElem? (i := 141) rfl)) e1183 (g := (mkF m 109 #[.val (.int p0), .val (.int p1), .val (.int p2), .val (.ref b1036), .val (.ref b1141), .val (.ref b1161), .unset] [(.int (2 : Int32))])) rfl (hb hby at_109) rfl (by decide) (cap := 2) (by decide) (by decide) (by decide) (by decide)
  obtain ⟨b1186, g1186⟩ : ∃ z, z = h1183.size := ⟨_, rfl⟩
  rw [← g1186] at A1186 st1186
  have f1188 := (Nat.le_trans (Nat.le_trans (Nat.le_trans (Nat.le_trans (Nat.le_trans f1163 E1161.1) (Keep.of_wr W1168).1) (Keep.of_wr W1173).1) (Keep.of_wr W1178).1) (Keep.of_wr W1183).1)
  have sz_b1186 : h0.size ≤ b1186 := Nat.le_trans f1188 (Nat.le_of_eq g1186.symm)
  have g_b1186 : n0 ≤ b1186 := Nat.le_trans f1187 (Nat.le_of_eq g1186.symm)
  have lt_b1036_b1186 : b1036 < b1186 := Nat.lt_of_lt_of_le ((((((f1148.keep K1146).ext E1161).wr W1168).wr W1173).wr W1178).wr W1183).lt (Nat.le_of_eq g1186.symm)
  have lt_b1044_b1186 : b1044 < b1186 := Nat.lt_of_lt_of_le ((((((f1152.keep K1146).ext E1161).wr W1168).wr W1173).wr W1178).wr W1183).lt (Nat.le_of_eq g1186.symm)
  have lt_b1053_b1186 : b1053 < b1186 := Nat.lt_of_lt_of_le ((((((f1154.keep K1146 (ninS (Nat.ne_of_lt lt_b1053_b1141) nin0)).ext E1161).other W1168 (Nat.ne_of_lt lt_b1053_b1161)).other W1173 (Nat.ne_of_lt lt_b1053_b1161)).other W1178 (Nat.ne_of_lt lt_b1053_b1161)).other W1183 (Nat.ne_of_lt lt_b1053_b1161)).lt (Nat.le_of_eq g1186.symm)
  have lt_gb1087_b1186 : gb1087 < b1186 := Nat.lt_of_lt_of_le ((((((f1151.keep K1146 (ninS (Nat.ne_of_lt lt_gb1087_b1141) nin0)).ext E1161).other W1168 (Nat.ne_of_lt lt_gb1087_b1161)).other W1173 (Nat.ne_of_lt lt_gb1087_b1161)).other W1178 (Nat.ne_of_lt lt_gb1087_b1161)).other W1183 (Nat.ne_of_lt lt_gb1087_b1161)).lt (Nat.le_of_eq g1186.symm)
  have lt_b1098_b1186 : b1098 < b1186 := Nat.lt_of_lt_of_le ((((((f1155.keep K1146).ext E1161).wr W1168).wr W1173).wr W1178).wr W1183).lt (Nat.le_of_eq g1186.symm)
  have lt_b1107_b1186 : b1107 < b1186 := Nat.lt_of_lt_of_le ((((((f1157.keep K1146 (ninS (Nat.ne_of_lt lt_b1107_b1141) nin0)).ext E1161).other W1168 (Nat.ne_of_lt lt_b1107_b1161)).other W1173 (Nat.ne_of_lt lt_b1107_b1161)).other W1178 (Nat.ne_of_lt lt_b1107_b1161)).other W1183 (Nat.ne_of_lt lt_b1107_b1161)).lt (Nat.le_of_eq g1186.symm)
  have lt_b1141_b1186 : b1141 < b1186 := Nat.lt_of_lt_of_le ((((((A1141.keep K1146).ext E1161).wr W1168).wr W1173).wr W1178).wr W1183).lt (Nat.le_of_eq g1186.symm)
  have lt_b1161_b1186 : b1161 < b1186 := Nat.lt_of_lt_of_le V1183'.lt (Nat.le_of_eq g1186.symm)
  have V1186 : Arv Z h1186 b1186 k1186 .boolean (2 : Int32) [(.int (0 : Int32)), (.int (0 : Int32))] (.int (0 : Int32)) := (Arv.new A1186 (by decide)).pad (pad_rep [] (.int (0 : Int32)) 2)
  have G1189 : Go p e below A0 (T1186.setTop (mkF m 111 #[.val (.int p0), .val (.int p1), .val (.int p2), .val (.ref b1036), .val (.ref b1141), .val (.ref b1161), .unset] [(.ref b1186)])) := fun tq kq => G1185 tq (st1186 _ kq)
  have ltk_b1186 : @LT.lt Nat _ k1_ b1186 := Nat.lt_of_lt_of_le (own_domlt (own_domW (own_domW (own_domW (own_domW (own_domE dom1146 E1161) W1168 ord1146 ltk_b1161) W1173 ord1146 ltk_b1161) W1178 ord1146 ltk_b1161) W1183 ord1146 ltk_b1161)) (Nat.le_of_eq g1186.symm)
  have G1190 : Go p e below A0 (T1186.setTop (mkF m 114 #[.val (.int p0), .val (.int p1), .val (.int p2), .val (.ref b1036), .val (.ref b1141), .val (.ref b1161), .unset] [(.int (1 : Int32)), (.int (0 : Int32)), (.ref b1186), (.ref b1186)])) := fun tq kq => G1189 tq (by
    refine XS.dup X1186.here hx rfl (hb hby at_111) rfl rfl ?_
    show Steps p.tables e below (T1186.setTop (mkF m 112 #[.val (.int p0), .val (.int p1), .val (.int p2), .val (.ref b1036), .val (.ref b1141), .val (.ref b1161), .unset] [(.ref b1186), (.ref b1186)])) _
    refine XS.iconst X1186.here hx rfl (hb hby at_112) ?_
    show Steps p.tables e below (T1186.setTop (mkF m 113 #[.val (.int p0), .val (.int p1), .val (.int p2), .val (.ref b1036), .val (.ref b1141), .val (.ref b1161), .unset] [(.int (0 : Int32)), (.ref b1186), (.ref b1186)])) _
    refine XS.iconst X1186.here hx rfl (hb hby at_113) ?_
    show Steps p.tables e below (T1186.setTop (mkF m 114 #[.val (.int p0), .val (.int p1), .val (.int p2), .val (.ref b1036), .val (.ref b1141), .val (.ref b1161), .unset] [(.int (1 : Int32)), (.int (0 : Int32)), (.ref b1186), (.ref b1186)])) _
    exact kq)
  obtain ⟨cl1191, Ar1191, q1191, S1191, M1191, H1191, Gf1191⟩ := id V1186
  have hi1192 : ¬ ((0 : Int32) < 0 ∨ cl1191.slots.size ≤ ((0 : Int32)).toNatClampNeg) := (inb_of S1191 ⟨by decide, by decide⟩)
  obtain ⟨T1193, h1193, X1193, e1193, W1193, st1193⟩ := stZ X1186 hx hZ e1186 Ar1191 (j := (0 : Int32)) hi1192 (g := (mkF m 114 #[.val (.int p0), .val (.int p1), .val (.int p2), .val (.ref b1036), .val (.ref b1141), .val (.ref b1161), .unset] [(.int (1 : Int32)), (.int (0 : Int32)), (.ref b1186), (.ref b1186)])) rfl rfl (hb hby at_114)
  rw [show nar .boolean (1 : Int32) = (1 : Int32) from by decide] at W1193
  have N1193 := Fr.snoc X1193 N1183 g_b1186
  have V1193 := Arv.set Ar1191 q1191 S1191 M1191 H1191 Gf1191 rfl W1193 0 rfl (Nat.le_of_ble_eq_true rfl)
  have V1193' : Arv Z h1193 b1186 k1186 .boolean (2 : Int32) [(.int (1 : Int32)), (.int (0 : Int32))] (.int (0 : Int32)) := by exact V1193
  have G1194 : Go p e below A0 (T1193.setTop (mkF m 115 #[.val (.int p0), .val (.int p1), .val (.int p2), .val (.ref b1036), .val (.ref b1141), .val (.ref b1161), .unset] [(.ref b1186)])) := fun tq kq => G1190 tq (st1193 _ kq)
  have G1195 : Go p e below A0 (T1193.setTop (mkF m 118 #[.val (.int p0), .val (.int p1), .val (.int p2), .val (.ref b1036), .val (.ref b1141), .val (.ref b1161), .unset] [(.int (1 : Int32)), (.int (1 : Int32)), (.ref b1186), (.ref b1186)])) := fun tq kq => G1194 tq (by
    refine XS.dup X1193.here hx rfl (hb hby at_115) rfl rfl ?_
    show Steps p.tables e below (T1193.setTop (mkF m 116 #[.val (.int p0), .val (.int p1), .val (.int p2), .val (.ref b1036), .val (.ref b1141), .val (.ref b1161), .unset] [(.ref b1186), (.ref b1186)])) _
    refine XS.iconst X1193.here hx rfl (hb hby at_116) ?_
    show Steps p.tables e below (T1193.setTop (mkF m 117 #[.val (.int p0), .val (.int p1), .val (.int p2), .val (.ref b1036), .val (.ref b1141), .val (.ref b1161), .unset] [(.int (1 : Int32)), (.ref b1186), (.ref b1186)])) _
    refine XS.iconst X1193.here hx rfl (hb hby at_117) ?_
    show Steps p.tables e below (T1193.setTop (mkF m 118 #[.val (.int p0), .val (.int p1), .val (.int p2), .val (.ref b1036), .val (.ref b1141), .val (.ref b1161), .unset] [(.int (1 : Int32)), (.int (1 : Int32)), (.ref b1186), (.ref b1186)])) _
    exact kq)
  obtain ⟨cl1196, Ar1196, q1196, S1196, M1196, H1196, Gf1196⟩ := id V1193'
  have hi1197 : ¬ ((1 : Int32) < 0 ∨ cl1196.slots.size ≤ ((1 : Int32)).toNatClampNeg) := (inb_of S1196 ⟨by decide, by decide⟩)
  obtain ⟨T1198, h1198, X1198, e1198, W1198, st1198⟩ := stZ X1193 hx hZ e1193 Ar1196 (j := (1 : Int32)) hi1197 (g := (mkF m 118 #[.val (.int p0), .val (.int p1), .val (.int p2), .val (.ref b1036), .val (.ref b1141), .val (.ref b1161), .unset] [(.int (1 : Int32)), (.int (1 : Int32)), (.ref b1186), (.ref b1186)])) rfl rfl (hb hby at_118)
  rw [show nar .boolean (1 : Int32) = (1 : Int32) from by decide] at W1198
  have N1198 := Fr.snoc X1198 N1193 g_b1186
  have V1198 := Arv.set Ar1196 q1196 S1196 M1196 H1196 Gf1196 rfl W1198 1 rfl (Nat.le_of_ble_eq_true rfl)
  have V1198' : Arv Z h1198 b1186 k1186 .boolean (2 : Int32) [(.int (1 : Int32)), (.int (1 : Int32))] (.int (0 : Int32)) := by exact V1198
  have G1199 : Go p e below A0 (T1198.setTop (mkF m 119 #[.val (.int p0), .val (.int p1), .val (.int p2), .val (.ref b1036), .val (.ref b1141), .val (.ref b1161), .unset] [(.ref b1186)])) := fun tq kq => G1195 tq (st1198 _ kq)
  have G1200 : Go p e below A0 (T1198.setTop (mkF m 128 #[.val (.int p0), .val (.int p1), .val (.int p2), .val (.ref b1036), .val (.ref b1141), .val (.ref b1161), .val (.ref b1186)] [(.int p0), (.ref b1186), (.ref b1161), (.ref b1141)])) := fun tq kq => G1199 tq (by
    refine XS.astore X1198.here hx rfl (hb hby at_119) rfl rfl (l' := #[.val (.int p0), .val (.int p1), .val (.int p2), .val (.ref b1036), .val (.ref b1141), .val (.ref b1161), .val (.ref b1186)]) rfl ?_
    show Steps p.tables e below (T1198.setTop (mkF m 121 #[.val (.int p0), .val (.int p1), .val (.int p2), .val (.ref b1036), .val (.ref b1141), .val (.ref b1161), .val (.ref b1186)] [])) _
    refine XS.aload X1198.here hx rfl (hb hby at_121) rfl rfl ?_
    show Steps p.tables e below (T1198.setTop (mkF m 123 #[.val (.int p0), .val (.int p1), .val (.int p2), .val (.ref b1036), .val (.ref b1141), .val (.ref b1161), .val (.ref b1186)] [(.ref b1141)])) _
    refine XS.aload X1198.here hx rfl (hb hby at_123) rfl rfl ?_
    show Steps p.tables e below (T1198.setTop (mkF m 125 #[.val (.int p0), .val (.int p1), .val (.int p2), .val (.ref b1036), .val (.ref b1141), .val (.ref b1161), .val (.ref b1186)] [(.ref b1161), (.ref b1141)])) _
    refine XS.aload X1198.here hx rfl (hb hby at_125) rfl rfl ?_
    show Steps p.tables e below (T1198.setTop (mkF m 127 #[.val (.int p0), .val (.int p1), .val (.int p2), .val (.ref b1036), .val (.ref b1141), .val (.ref b1161), .val (.ref b1186)] [(.ref b1186), (.ref b1161), (.ref b1141)])) _
    refine XS.iloadN X1198.here hx rfl (hb hby at_127) rfl ?_
    show Steps p.tables e below (T1198.setTop (mkF m 128 #[.val (.int p0), .val (.int p1), .val (.int p2), .val (.ref b1036), .val (.ref b1141), .val (.ref b1161), .val (.ref b1186)] [(.int p0), (.ref b1186), (.ref b1161), (.ref b1141)])) _
    exact kq)
  have f1202 := (Nat.le_trans (Nat.le_trans (Nat.le_trans f1187 E1186.1) (Keep.of_wr W1193).1) (Keep.of_wr W1198).1)
  have f1203 := (((V1183'.ext E1186).other W1193 (Nat.ne_of_lt lt_b1161_b1186)).other W1198 (Nat.ne_of_lt lt_b1161_b1186))
  have If_b1161 : Af Z h1198 b1161 k1161 .boolean (4 : Int32) (fun i => .int (own_one i)) := (Af.of f1203).fn own_one4
  have If_b1186 : Af Z h1198 b1186 k1186 .boolean (2 : Int32) (fun i => .int (own_one i)) := (Af.of V1198').fn own_one2
  have f1204 := (own_domW (own_domW (own_domE (own_domW (own_domW (own_domW (own_domW (own_domE dom1146 E1161) W1168 ord1146 ltk_b1161) W1173 ord1146 ltk_b1161) W1178 ord1146 ltk_b1161) W1183 ord1146 ltk_b1161) E1186) W1193 ord1146 ltk_b1186) W1198 ord1146 ltk_b1186)
  obtain ⟨_, _, ⟨T1201, L1201, k1201, n1201⟩, -, X1201, ⟨Lc1201, hQ1201, l1201, y1201, z1201⟩, st1201⟩ := Jvm.LawKit.callS X1198 hx (y := (⟨"com/example/ludarc/ludarc/engine/DomainsContainsPinLaw", "step", "(Lcom/example/ludarc/ludarc/engine/Domains;[Z[ZI)V"⟩ : MethodName)) hown (mvT hZ (hw _ (List.mem_of_getElem? (i := 142) rfl))) (mvT hZ (hw _ (List.mem_of_getElem? (i := 143) rfl))) (mvT hZ (hw _ (List.mem_of_getElem? (i := 144) rfl))) (mvT hZ (hw _ (List.mem_of_getElem? (i := 145) rfl))) (by decide) (backOf (W := 0) (rmST l Z a0 hw [] b1141 mem_ pos_ siz_ mrk_ m0_ p0_ k0_ m1_ p1_ k1_ (1 : Int32) own_sz own_id own_id own_zero own_id own_id own_zero b1161 b1186 k1161 k1186 own_one own_one p0 h1198 n0 f1202 ord1146 f1204 ⟨ltk_b1161, lt_b1161_b1186⟩ If_b1161 If_b1186 own_stp0) hZ (hw _ (List.mem_of_getElem? (i := 145) rfl)) (hw _ (List.mem_of_getElem? (i := 144) rfl)) (by decide) (by decide)) (g := (mkF m 128 #[.val (.int p0), .val (.int p1), .val (.int p2), .val (.ref b1036), .val (.ref b1141), .val (.ref b1161), .val (.ref b1186)] [(.int p0), (.ref b1186), (.ref b1161), (.ref b1141)])) rfl (by rw [hml]; rfl) (argsL := [(.ref b1141), (.ref b1161), (.ref b1186), (.int p0)]) (rest := []) (lenOf pd_13 rfl) rfl (by show 2 * 0 + _ ≤ _; exact Nat.le_of_eq rfl) (hb hby at_128) (fun _ _ => ⟨rfl, e1198, (by decide : 23 + 0 ≤ _), (by decide : 82 + 0 ≤ _)⟩)
  dsimp only [Pt.U, Pt.locs, Pt.cells, Pt.slots] at X1201 l1201 y1201 z1201 st1201 hQ1201
  obtain rfl : k1201 = 23 := y1201
  obtain rfl : n1201 = 82 := z1201
  obtain ⟨fsz_1201, fm0_1201, fp0_1201, fm1_1201, fp1_1201, ju_1201, jw_1201, rfl, N1201q, K1201, dom1201, Ia1201, Ib1201, hst1201⟩ := hQ1201
  have N1201 : Fr n0 L1201 := by rw [l1201]; exact Fr.app N1198 N1201q
  have G1205 : Go p e below A0 (T1201.setTop (mkF m 131 #[.val (.int p0), .val (.int p1), .val (.int p2), .val (.ref b1036), .val (.ref b1141), .val (.ref b1161), .val (.ref b1186)] [])) := fun tq kq => G1200 tq (st1201 _ kq)
  have G1206 : Go p e below A0 (T1201.setTop (mkF m 138 #[.val (.int p0), .val (.int p1), .val (.int p2), .val (.ref b1036), .val (.ref b1141), .val (.ref b1161), .val (.ref b1186)] [(.int p1), (.ref b1186), (.ref b1161), (.ref b1141)])) := fun tq kq => G1205 tq (by
    refine XS.aload X1201.here hx rfl (hb hby at_131) rfl rfl ?_
    show Steps p.tables e below (T1201.setTop (mkF m 133 #[.val (.int p0), .val (.int p1), .val (.int p2), .val (.ref b1036), .val (.ref b1141), .val (.ref b1161), .val (.ref b1186)] [(.ref b1141)])) _
    refine XS.aload X1201.here hx rfl (hb hby at_133) rfl rfl ?_
    show Steps p.tables e below (T1201.setTop (mkF m 135 #[.val (.int p0), .val (.int p1), .val (.int p2), .val (.ref b1036), .val (.ref b1141), .val (.ref b1161), .val (.ref b1186)] [(.ref b1161), (.ref b1141)])) _
    refine XS.aload X1201.here hx rfl (hb hby at_135) rfl rfl ?_
    show Steps p.tables e below (T1201.setTop (mkF m 137 #[.val (.int p0), .val (.int p1), .val (.int p2), .val (.ref b1036), .val (.ref b1141), .val (.ref b1161), .val (.ref b1186)] [(.ref b1186), (.ref b1161), (.ref b1141)])) _
    refine XS.iloadN X1201.here hx rfl (hb hby at_137) rfl ?_
    show Steps p.tables e below (T1201.setTop (mkF m 138 #[.val (.int p0), .val (.int p1), .val (.int p2), .val (.ref b1036), .val (.ref b1141), .val (.ref b1161), .val (.ref b1186)] [(.int p1), (.ref b1186), (.ref b1161), (.ref b1141)])) _
    exact kq)
  have f1208 := (Nat.le_trans f1202 K1201.1)
  obtain ⟨_, _, ⟨T1207, L1207, k1207, n1207⟩, -, X1207, ⟨Lc1207, hQ1207, l1207, y1207, z1207⟩, st1207⟩ := Jvm.LawKit.callS X1201 hx (y := (⟨"com/example/ludarc/ludarc/engine/DomainsContainsPinLaw", "step", "(Lcom/example/ludarc/ludarc/engine/Domains;[Z[ZI)V"⟩ : MethodName)) hown (mvT hZ (hw _ (List.mem_of_getElem? (i := 142) rfl))) (mvT hZ (hw _ (List.mem_of_getElem? (i := 143) rfl))) (mvT hZ (hw _ (List.mem_of_getElem? (i := 144) rfl))) (mvT hZ (hw _ (List.mem_of_getElem? (i := 145) rfl))) (by decide) (backOf (W := 0) (rmST l Z a0 hw [] b1141 mem_ pos_ siz_ mrk_ m0_ p0_ k0_ m1_ p1_ k1_ (1 : Int32) fsz_1201 fm0_1201 fp0_1201 own_zero fm1_1201 fp1_1201 own_zero b1161 b1186 k1161 k1186 ju_1201 jw_1201 p1 T1201.heap n0 f1208 ord1146 dom1201 ⟨ltk_b1161, lt_b1161_b1186⟩ Ia1201 Ib1201 hst1201) hZ (hw _ (List.mem_of_getElem? (i := 145) rfl)) (hw _ (List.mem_of_getElem? (i := 144) rfl)) (by decide) (by decide)) (g := (mkF m 138 #[.val (.int p0), .val (.int p1), .val (.int p2), .val (.ref b1036), .val (.ref b1141), .val (.ref b1161), .val (.ref b1186)] [(.int p1), (.ref b1186), (.ref b1161), (.ref b1141)])) rfl (by rw [hml]; rfl) (argsL := [(.ref b1141), (.ref b1161), (.ref b1186), (.int p1)]) (rest := []) (lenOf pd_13 rfl) rfl (by show 2 * 0 + _ ≤ _; exact Nat.le_of_eq rfl) (hb hby at_138) (fun _ _ => ⟨rfl, rfl, (by decide : 23 + 0 ≤ _), (by decide : 82 + 0 ≤ _)⟩)
  dsimp only [Pt.U, Pt.locs, Pt.cells, Pt.slots] at X1207 l1207 y1207 z1207 st1207 hQ1207
  obtain rfl : k1207 = 23 := y1207
  obtain rfl : n1207 = 82 := z1207
  obtain ⟨fsz_1207, fm0_1207, fp0_1207, fm1_1207, fp1_1207, ju_1207, jw_1207, rfl, N1207q, K1207, dom1207, Ia1207, Ib1207, hst1207⟩ := hQ1207
  have N1207 : Fr n0 L1207 := by rw [l1207]; exact Fr.app N1201 N1207q
  have G1209 : Go p e below A0 (T1207.setTop (mkF m 141 #[.val (.int p0), .val (.int p1), .val (.int p2), .val (.ref b1036), .val (.ref b1141), .val (.ref b1161), .val (.ref b1186)] [])) := fun tq kq => G1206 tq (st1207 _ kq)
  have G1210 : Go p e below A0 (T1207.setTop (mkF m 148 #[.val (.int p0), .val (.int p1), .val (.int p2), .val (.ref b1036), .val (.ref b1141), .val (.ref b1161), .val (.ref b1186)] [(.int p2), (.ref b1186), (.ref b1161), (.ref b1141)])) := fun tq kq => G1209 tq (by
    refine XS.aload X1207.here hx rfl (hb hby at_141) rfl rfl ?_
    show Steps p.tables e below (T1207.setTop (mkF m 143 #[.val (.int p0), .val (.int p1), .val (.int p2), .val (.ref b1036), .val (.ref b1141), .val (.ref b1161), .val (.ref b1186)] [(.ref b1141)])) _
    refine XS.aload X1207.here hx rfl (hb hby at_143) rfl rfl ?_
    show Steps p.tables e below (T1207.setTop (mkF m 145 #[.val (.int p0), .val (.int p1), .val (.int p2), .val (.ref b1036), .val (.ref b1141), .val (.ref b1161), .val (.ref b1186)] [(.ref b1161), (.ref b1141)])) _
    refine XS.aload X1207.here hx rfl (hb hby at_145) rfl rfl ?_
    show Steps p.tables e below (T1207.setTop (mkF m 147 #[.val (.int p0), .val (.int p1), .val (.int p2), .val (.ref b1036), .val (.ref b1141), .val (.ref b1161), .val (.ref b1186)] [(.ref b1186), (.ref b1161), (.ref b1141)])) _
    refine XS.iloadN X1207.here hx rfl (hb hby at_147) rfl ?_
    show Steps p.tables e below (T1207.setTop (mkF m 148 #[.val (.int p0), .val (.int p1), .val (.int p2), .val (.ref b1036), .val (.ref b1141), .val (.ref b1161), .val (.ref b1186)] [(.int p2), (.ref b1186), (.ref b1161), (.ref b1141)])) _
    exact kq)
  have f1212 := (Nat.le_trans f1208 K1207.1)
  obtain ⟨_, _, ⟨T1211, L1211, k1211, n1211⟩, -, X1211, ⟨Lc1211, hQ1211, l1211, y1211, z1211⟩, st1211⟩ := Jvm.LawKit.callS X1207 hx (y := (⟨"com/example/ludarc/ludarc/engine/DomainsContainsPinLaw", "step", "(Lcom/example/ludarc/ludarc/engine/Domains;[Z[ZI)V"⟩ : MethodName)) hown (mvT hZ (hw _ (List.mem_of_getElem? (i := 142) rfl))) (mvT hZ (hw _ (List.mem_of_getElem? (i := 143) rfl))) (mvT hZ (hw _ (List.mem_of_getElem? (i := 144) rfl))) (mvT hZ (hw _ (List.mem_of_getElem? (i := 145) rfl))) (by decide) (backOf (W := 0) (rmST l Z a0 hw [] b1141 mem_ pos_ siz_ mrk_ m0_ p0_ k0_ m1_ p1_ k1_ (1 : Int32) fsz_1207 fm0_1207 fp0_1207 own_zero fm1_1207 fp1_1207 own_zero b1161 b1186 k1161 k1186 ju_1207 jw_1207 p2 T1207.heap n0 f1212 ord1146 dom1207 ⟨ltk_b1161, lt_b1161_b1186⟩ Ia1207 Ib1207 hst1207) hZ (hw _ (List.mem_of_getElem? (i := 145) rfl)) (hw _ (List.mem_of_getElem? (i := 144) rfl)) (by decide) (by decide)) (g := (mkF m 148 #[.val (.int p0), .val (.int p1), .val (.int p2), .val (.ref b1036), .val (.ref b1141), .val (.ref b1161), .val (.ref b1186)] [(.int p2), (.ref b1186), (.ref b1161), (.ref b1141)])) rfl (by rw [hml]; rfl) (argsL := [(.ref b1141), (.ref b1161), (.ref b1186), (.int p2)]) (rest := []) (lenOf pd_13 rfl) rfl (by show 2 * 0 + _ ≤ _; exact Nat.le_of_eq rfl) (hb hby at_148) (fun _ _ => ⟨rfl, rfl, (by decide : 23 + 0 ≤ _), (by decide : 82 + 0 ≤ _)⟩)
  dsimp only [Pt.U, Pt.locs, Pt.cells, Pt.slots] at X1211 l1211 y1211 z1211 st1211 hQ1211
  obtain rfl : k1211 = 23 := y1211
  obtain rfl : n1211 = 82 := z1211
  obtain ⟨fsz_1211, fm0_1211, fp0_1211, fm1_1211, fp1_1211, ju_1211, jw_1211, rfl, N1211q, K1211, dom1211, Ia1211, Ib1211, hst1211⟩ := hQ1211
  have N1211 : Fr n0 L1211 := by rw [l1211]; exact Fr.app N1207 N1211q
  have G1213 : Go p e below A0 (T1211.setTop (mkF m 151 #[.val (.int p0), .val (.int p1), .val (.int p2), .val (.ref b1036), .val (.ref b1141), .val (.ref b1161), .val (.ref b1186)] [])) := fun tq kq => G1210 tq (st1211 _ kq)
  have G1214 : Go p e below A0 (T1211.setTop (mkF m 155 #[.val (.int p0), .val (.int p1), .val (.int p2), .val (.ref b1036), .val (.ref b1141), .val (.ref b1161), .val (.ref b1186)] [(.int (0 : Int32)), (.int (0 : Int32)), (.ref b1141)])) := fun tq kq => G1213 tq (by
    refine XS.aload X1211.here hx rfl (hb hby at_151) rfl rfl ?_
    show Steps p.tables e below (T1211.setTop (mkF m 153 #[.val (.int p0), .val (.int p1), .val (.int p2), .val (.ref b1036), .val (.ref b1141), .val (.ref b1161), .val (.ref b1186)] [(.ref b1141)])) _
    refine XS.iconst X1211.here hx rfl (hb hby at_153) ?_
    show Steps p.tables e below (T1211.setTop (mkF m 154 #[.val (.int p0), .val (.int p1), .val (.int p2), .val (.ref b1036), .val (.ref b1141), .val (.ref b1161), .val (.ref b1186)] [(.int (0 : Int32)), (.ref b1141)])) _
    refine XS.iconst X1211.here hx rfl (hb hby at_154) ?_
    show Steps p.tables e below (T1211.setTop (mkF m 155 #[.val (.int p0), .val (.int p1), .val (.int p2), .val (.ref b1036), .val (.ref b1141), .val (.ref b1161), .val (.ref b1186)] [(.int (0 : Int32)), (.int (0 : Int32)), (.ref b1141)])) _
    exact kq)
  have f1216 := (Nat.le_trans f1212 K1211.1)
  obtain ⟨cq1215, kq1215, q1215a, q1215b, q1215c⟩ := isOf hZ rfl dom1211.1
  obtain ⟨_, _, ⟨T1215, L1215, k1215, n1215⟩, -, X1215, ⟨Lc1215, hQ1215, l1215, y1215, z1215⟩, st1215⟩ := X1211.virtualBack hx (y := (⟨"com/example/ludarc/ludarc/engine/Domains", "contains", "(II)Z"⟩ : MethodName)) (z := (⟨"com/example/ludarc/ludarc/engine/Domains", "contains", "(II)Z"⟩ : MethodName)) hown (mvT hZ (hw _ (List.mem_of_getElem? (i := 155) rfl))) (mvT hZ (hw _ (List.mem_of_getElem? (i := 156) rfl))) (notFace_of_selects (args := #[]) (mvT hZ (hw _ (List.mem_of_getElem? (i := 158) rfl)))) (mvT hZ (hw _ (List.mem_of_getElem? (i := 158) rfl))) (mvT hZ (hw _ (List.mem_of_getElem? (i := 157) rfl))) (by decide) (backOf (W := 0) (rmC0_0 l Z a0 hw [] b1141 mem_ pos_ siz_ mrk_ m0_ p0_ k0_ m1_ p1_ k1_ (1 : Int32) fsz_1211 fm0_1211 fp0_1211 own_zero fm1_1211 fp1_1211 own_zero T1211.heap n0 f1216 ord1146 dom1211) hZ (hw _ (List.mem_of_getElem? (i := 159) rfl)) (hw _ (List.mem_of_getElem? (i := 86) rfl)) (by decide) (by decide)) q1215a q1215c (g := (mkF m 155 #[.val (.int p0), .val (.int p1), .val (.int p2), .val (.ref b1036), .val (.ref b1141), .val (.ref b1161), .val (.ref b1186)] [(.int (0 : Int32)), (.int (0 : Int32)), (.ref b1141)])) rfl (by rw [hml]; rfl) (Steps.refl _) (argsL := [(.int (0 : Int32)), (.int (0 : Int32))]) (rest := []) (lenOf pd_14 rfl) rfl (by show 2 * 0 + _ ≤ _; exact Nat.le_of_eq rfl) (hb hby at_155) (fun _ _ => ⟨rfl, rfl, (by decide : 23 + 0 ≤ _), (by decide : 82 + 0 ≤ _)⟩)
  dsimp only [Pt.U, Pt.locs, Pt.cells, Pt.slots] at X1215 l1215 y1215 z1215 st1215 hQ1215
  obtain rfl : k1215 = 23 := y1215
  obtain rfl : n1215 = 82 := z1215
  obtain ⟨rfl, N1215q, e1215⟩ := hQ1215
  have N1215 : Fr n0 L1215 := by rw [l1215]; exact Fr.app N1211 N1215q
  have G1217 : Go p e below A0 (T1215.setTop (mkF m 158 #[.val (.int p0), .val (.int p1), .val (.int p2), .val (.ref b1036), .val (.ref b1141), .val (.ref b1161), .val (.ref b1186)] [(.int (own_b ((fp0_1211 0) < (fsz_1211 0))))])) := fun tq kq => G1214 tq (st1215.trans kq)
  have G1218 : Go p e below A0 (T1215.setTop (mkF m 161 #[.val (.int p0), .val (.int p1), .val (.int p2), .val (.ref b1036), .val (.ref b1141), .val (.ref b1161), .val (.ref b1186)] [(.int (0 : Int32)), (.ref b1161), (.int (own_b ((fp0_1211 0) < (fsz_1211 0))))])) := fun tq kq => G1217 tq (by
    refine XS.aload X1215.here hx rfl (hb hby at_158) rfl rfl ?_
    show Steps p.tables e below (T1215.setTop (mkF m 160 #[.val (.int p0), .val (.int p1), .val (.int p2), .val (.ref b1036), .val (.ref b1141), .val (.ref b1161), .val (.ref b1186)] [(.ref b1161), (.int (own_b ((fp0_1211 0) < (fsz_1211 0))))])) _
    refine XS.iconst X1215.here hx rfl (hb hby at_160) ?_
    show Steps p.tables e below (T1215.setTop (mkF m 161 #[.val (.int p0), .val (.int p1), .val (.int p2), .val (.ref b1036), .val (.ref b1141), .val (.ref b1161), .val (.ref b1186)] [(.int (0 : Int32)), (.ref b1161), (.int (own_b ((fp0_1211 0) < (fsz_1211 0))))])) _
    exact kq)
  obtain ⟨cl1219, Ar1219, q1219, S1219, M1219, H1219⟩ := id Ia1211
  have hi1220 : ¬ ((0 : Int32) < 0 ∨ cl1219.slots.size ≤ ((0 : Int32)).toNatClampNeg) := (inb_of S1219 ⟨by decide, by decide⟩)
  have G1221 : Go p e below A0 (T1215.setTop (mkF m 169 #[.val (.int p0), .val (.int p1), .val (.int p2), .val (.ref b1036), .val (.ref b1141), .val (.ref b1161), .val (.ref b1186)] [(.int (1 : Int32)), (.int (0 : Int32)), (.ref b1141)])) := fun tq kq => G1218 tq (by
    refine X1215.baloadBooleans hx (j := (0 : Int32)) (v := (.int (own_b ((fp0_1211 0) < (fsz_1211 0))))) (by rw [e1215]; exact Ar1219.1) (State.isArrayOf_alike hZ.alike Ar1219.2.1) Ar1219.2.2 hi1220 ((H1219 _ (S1219 ▸ Nat.lt_of_not_le fun y => hi1220 (Or.inr y))).trans (congrArg some (congrArg Value.int (hst1211.2.2.2.2.1 0 (by decide))))) (g := (mkF m 161 #[.val (.int p0), .val (.int p1), .val (.int p2), .val (.ref b1036), .val (.ref b1141), .val (.ref b1161), .val (.ref b1186)] [(.int (0 : Int32)), (.ref b1161), (.int (own_b ((fp0_1211 0) < (fsz_1211 0))))])) rfl rfl (hb hby at_161) _ ?_
    show Steps p.tables e below (T1215.setTop (mkF m 162 #[.val (.int p0), .val (.int p1), .val (.int p2), .val (.ref b1036), .val (.ref b1141), .val (.ref b1161), .val (.ref b1186)] [(.int (own_b ((fp0_1211 0) < (fsz_1211 0)))), (.int (own_b ((fp0_1211 0) < (fsz_1211 0))))])) _
    refine XS.icmpNo X1215.here hx rfl (hb hby at_162) rfl (teq (rfl : (own_b ((fp0_1211 0) < (fsz_1211 0))) = (own_b ((fp0_1211 0) < (fsz_1211 0))))).2 ?_
    show Steps p.tables e below (T1215.setTop (mkF m 165 #[.val (.int p0), .val (.int p1), .val (.int p2), .val (.ref b1036), .val (.ref b1141), .val (.ref b1161), .val (.ref b1186)] [])) _
    refine XS.aload X1215.here hx rfl (hb hby at_165) rfl rfl ?_
    show Steps p.tables e below (T1215.setTop (mkF m 167 #[.val (.int p0), .val (.int p1), .val (.int p2), .val (.ref b1036), .val (.ref b1141), .val (.ref b1161), .val (.ref b1186)] [(.ref b1141)])) _
    refine XS.iconst X1215.here hx rfl (hb hby at_167) ?_
    show Steps p.tables e below (T1215.setTop (mkF m 168 #[.val (.int p0), .val (.int p1), .val (.int p2), .val (.ref b1036), .val (.ref b1141), .val (.ref b1161), .val (.ref b1186)] [(.int (0 : Int32)), (.ref b1141)])) _
    refine XS.iconst X1215.here hx rfl (hb hby at_168) ?_
    show Steps p.tables e below (T1215.setTop (mkF m 169 #[.val (.int p0), .val (.int p1), .val (.int p2), .val (.ref b1036), .val (.ref b1141), .val (.ref b1161), .val (.ref b1186)] [(.int (1 : Int32)), (.int (0 : Int32)), (.ref b1141)])) _
    exact kq)
  obtain ⟨cq1222, kq1222, q1222a, q1222b, q1222c⟩ := isOf hZ e1215 dom1211.1
  obtain ⟨_, _, ⟨T1222, L1222, k1222, n1222⟩, -, X1222, ⟨Lc1222, hQ1222, l1222, y1222, z1222⟩, st1222⟩ := X1215.virtualBack hx (y := (⟨"com/example/ludarc/ludarc/engine/Domains", "contains", "(II)Z"⟩ : MethodName)) (z := (⟨"com/example/ludarc/ludarc/engine/Domains", "contains", "(II)Z"⟩ : MethodName)) hown (mvT hZ (hw _ (List.mem_of_getElem? (i := 155) rfl))) (mvT hZ (hw _ (List.mem_of_getElem? (i := 156) rfl))) (notFace_of_selects (args := #[]) (mvT hZ (hw _ (List.mem_of_getElem? (i := 158) rfl)))) (mvT hZ (hw _ (List.mem_of_getElem? (i := 158) rfl))) (mvT hZ (hw _ (List.mem_of_getElem? (i := 157) rfl))) (by decide) (backOf (W := 0) (rmC0_1 l Z a0 hw [] b1141 mem_ pos_ siz_ mrk_ m0_ p0_ k0_ m1_ p1_ k1_ (1 : Int32) fsz_1211 fm0_1211 fp0_1211 own_zero fm1_1211 fp1_1211 own_zero T1211.heap n0 f1216 ord1146 dom1211) hZ (hw _ (List.mem_of_getElem? (i := 159) rfl)) (hw _ (List.mem_of_getElem? (i := 86) rfl)) (by decide) (by decide)) q1222a q1222c (g := (mkF m 169 #[.val (.int p0), .val (.int p1), .val (.int p2), .val (.ref b1036), .val (.ref b1141), .val (.ref b1161), .val (.ref b1186)] [(.int (1 : Int32)), (.int (0 : Int32)), (.ref b1141)])) rfl (by rw [hml]; rfl) (Steps.refl _) (argsL := [(.int (0 : Int32)), (.int (1 : Int32))]) (rest := []) (lenOf pd_14 rfl) rfl (by show 2 * 0 + _ ≤ _; exact Nat.le_of_eq rfl) (hb hby at_169) (fun _ _ => ⟨rfl, e1215, (by decide : 23 + 0 ≤ _), (by decide : 82 + 0 ≤ _)⟩)
  dsimp only [Pt.U, Pt.locs, Pt.cells, Pt.slots] at X1222 l1222 y1222 z1222 st1222 hQ1222
  obtain rfl : k1222 = 23 := y1222
  obtain rfl : n1222 = 82 := z1222
  obtain ⟨rfl, N1222q, e1222⟩ := hQ1222
  have N1222 : Fr n0 L1222 := by rw [l1222]; exact Fr.app N1215 N1222q
  have G1223 : Go p e below A0 (T1222.setTop (mkF m 172 #[.val (.int p0), .val (.int p1), .val (.int p2), .val (.ref b1036), .val (.ref b1141), .val (.ref b1161), .val (.ref b1186)] [(.int (own_b ((fp0_1211 1) < (fsz_1211 0))))])) := fun tq kq => G1221 tq (st1222.trans kq)
  have G1224 : Go p e below A0 (T1222.setTop (mkF m 175 #[.val (.int p0), .val (.int p1), .val (.int p2), .val (.ref b1036), .val (.ref b1141), .val (.ref b1161), .val (.ref b1186)] [(.int (1 : Int32)), (.ref b1161), (.int (own_b ((fp0_1211 1) < (fsz_1211 0))))])) := fun tq kq => G1223 tq (by
    refine XS.aload X1222.here hx rfl (hb hby at_172) rfl rfl ?_
    show Steps p.tables e below (T1222.setTop (mkF m 174 #[.val (.int p0), .val (.int p1), .val (.int p2), .val (.ref b1036), .val (.ref b1141), .val (.ref b1161), .val (.ref b1186)] [(.ref b1161), (.int (own_b ((fp0_1211 1) < (fsz_1211 0))))])) _
    refine XS.iconst X1222.here hx rfl (hb hby at_174) ?_
    show Steps p.tables e below (T1222.setTop (mkF m 175 #[.val (.int p0), .val (.int p1), .val (.int p2), .val (.ref b1036), .val (.ref b1141), .val (.ref b1161), .val (.ref b1186)] [(.int (1 : Int32)), (.ref b1161), (.int (own_b ((fp0_1211 1) < (fsz_1211 0))))])) _
    exact kq)
  obtain ⟨cl1225, Ar1225, q1225, S1225, M1225, H1225⟩ := id Ia1211
  have hi1226 : ¬ ((1 : Int32) < 0 ∨ cl1225.slots.size ≤ ((1 : Int32)).toNatClampNeg) := (inb_of S1225 ⟨by decide, by decide⟩)
  have G1227 : Go p e below A0 (T1222.setTop (mkF m 183 #[.val (.int p0), .val (.int p1), .val (.int p2), .val (.ref b1036), .val (.ref b1141), .val (.ref b1161), .val (.ref b1186)] [(.int (2 : Int32)), (.int (0 : Int32)), (.ref b1141)])) := fun tq kq => G1224 tq (by
    refine X1222.baloadBooleans hx (j := (1 : Int32)) (v := (.int (own_b ((fp0_1211 1) < (fsz_1211 0))))) (by rw [e1222]; exact Ar1225.1) (State.isArrayOf_alike hZ.alike Ar1225.2.1) Ar1225.2.2 hi1226 ((H1225 _ (S1225 ▸ Nat.lt_of_not_le fun y => hi1226 (Or.inr y))).trans (congrArg some (congrArg Value.int (hst1211.2.2.2.2.1 1 (by decide))))) (g := (mkF m 175 #[.val (.int p0), .val (.int p1), .val (.int p2), .val (.ref b1036), .val (.ref b1141), .val (.ref b1161), .val (.ref b1186)] [(.int (1 : Int32)), (.ref b1161), (.int (own_b ((fp0_1211 1) < (fsz_1211 0))))])) rfl rfl (hb hby at_175) _ ?_
    show Steps p.tables e below (T1222.setTop (mkF m 176 #[.val (.int p0), .val (.int p1), .val (.int p2), .val (.ref b1036), .val (.ref b1141), .val (.ref b1161), .val (.ref b1186)] [(.int (own_b ((fp0_1211 1) < (fsz_1211 0)))), (.int (own_b ((fp0_1211 1) < (fsz_1211 0))))])) _
    refine XS.icmpNo X1222.here hx rfl (hb hby at_176) rfl (teq (rfl : (own_b ((fp0_1211 1) < (fsz_1211 0))) = (own_b ((fp0_1211 1) < (fsz_1211 0))))).2 ?_
    show Steps p.tables e below (T1222.setTop (mkF m 179 #[.val (.int p0), .val (.int p1), .val (.int p2), .val (.ref b1036), .val (.ref b1141), .val (.ref b1161), .val (.ref b1186)] [])) _
    refine XS.aload X1222.here hx rfl (hb hby at_179) rfl rfl ?_
    show Steps p.tables e below (T1222.setTop (mkF m 181 #[.val (.int p0), .val (.int p1), .val (.int p2), .val (.ref b1036), .val (.ref b1141), .val (.ref b1161), .val (.ref b1186)] [(.ref b1141)])) _
    refine XS.iconst X1222.here hx rfl (hb hby at_181) ?_
    show Steps p.tables e below (T1222.setTop (mkF m 182 #[.val (.int p0), .val (.int p1), .val (.int p2), .val (.ref b1036), .val (.ref b1141), .val (.ref b1161), .val (.ref b1186)] [(.int (0 : Int32)), (.ref b1141)])) _
    refine XS.iconst X1222.here hx rfl (hb hby at_182) ?_
    show Steps p.tables e below (T1222.setTop (mkF m 183 #[.val (.int p0), .val (.int p1), .val (.int p2), .val (.ref b1036), .val (.ref b1141), .val (.ref b1161), .val (.ref b1186)] [(.int (2 : Int32)), (.int (0 : Int32)), (.ref b1141)])) _
    exact kq)
  obtain ⟨cq1228, kq1228, q1228a, q1228b, q1228c⟩ := isOf hZ e1222 dom1211.1
  obtain ⟨_, _, ⟨T1228, L1228, k1228, n1228⟩, -, X1228, ⟨Lc1228, hQ1228, l1228, y1228, z1228⟩, st1228⟩ := X1222.virtualBack hx (y := (⟨"com/example/ludarc/ludarc/engine/Domains", "contains", "(II)Z"⟩ : MethodName)) (z := (⟨"com/example/ludarc/ludarc/engine/Domains", "contains", "(II)Z"⟩ : MethodName)) hown (mvT hZ (hw _ (List.mem_of_getElem? (i := 155) rfl))) (mvT hZ (hw _ (List.mem_of_getElem? (i := 156) rfl))) (notFace_of_selects (args := #[]) (mvT hZ (hw _ (List.mem_of_getElem? (i := 158) rfl)))) (mvT hZ (hw _ (List.mem_of_getElem? (i := 158) rfl))) (mvT hZ (hw _ (List.mem_of_getElem? (i := 157) rfl))) (by decide) (backOf (W := 0) (rmC0_2 l Z a0 hw [] b1141 mem_ pos_ siz_ mrk_ m0_ p0_ k0_ m1_ p1_ k1_ (1 : Int32) fsz_1211 fm0_1211 fp0_1211 own_zero fm1_1211 fp1_1211 own_zero T1211.heap n0 f1216 ord1146 dom1211) hZ (hw _ (List.mem_of_getElem? (i := 159) rfl)) (hw _ (List.mem_of_getElem? (i := 86) rfl)) (by decide) (by decide)) q1228a q1228c (g := (mkF m 183 #[.val (.int p0), .val (.int p1), .val (.int p2), .val (.ref b1036), .val (.ref b1141), .val (.ref b1161), .val (.ref b1186)] [(.int (2 : Int32)), (.int (0 : Int32)), (.ref b1141)])) rfl (by rw [hml]; rfl) (Steps.refl _) (argsL := [(.int (0 : Int32)), (.int (2 : Int32))]) (rest := []) (lenOf pd_14 rfl) rfl (by show 2 * 0 + _ ≤ _; exact Nat.le_of_eq rfl) (hb hby at_183) (fun _ _ => ⟨rfl, e1222, (by decide : 23 + 0 ≤ _), (by decide : 82 + 0 ≤ _)⟩)
  dsimp only [Pt.U, Pt.locs, Pt.cells, Pt.slots] at X1228 l1228 y1228 z1228 st1228 hQ1228
  obtain rfl : k1228 = 23 := y1228
  obtain rfl : n1228 = 82 := z1228
  obtain ⟨rfl, N1228q, e1228⟩ := hQ1228
  have N1228 : Fr n0 L1228 := by rw [l1228]; exact Fr.app N1222 N1228q
  have G1229 : Go p e below A0 (T1228.setTop (mkF m 186 #[.val (.int p0), .val (.int p1), .val (.int p2), .val (.ref b1036), .val (.ref b1141), .val (.ref b1161), .val (.ref b1186)] [(.int (own_b ((fp0_1211 2) < (fsz_1211 0))))])) := fun tq kq => G1227 tq (st1228.trans kq)
  have G1230 : Go p e below A0 (T1228.setTop (mkF m 189 #[.val (.int p0), .val (.int p1), .val (.int p2), .val (.ref b1036), .val (.ref b1141), .val (.ref b1161), .val (.ref b1186)] [(.int (2 : Int32)), (.ref b1161), (.int (own_b ((fp0_1211 2) < (fsz_1211 0))))])) := fun tq kq => G1229 tq (by
    refine XS.aload X1228.here hx rfl (hb hby at_186) rfl rfl ?_
    show Steps p.tables e below (T1228.setTop (mkF m 188 #[.val (.int p0), .val (.int p1), .val (.int p2), .val (.ref b1036), .val (.ref b1141), .val (.ref b1161), .val (.ref b1186)] [(.ref b1161), (.int (own_b ((fp0_1211 2) < (fsz_1211 0))))])) _
    refine XS.iconst X1228.here hx rfl (hb hby at_188) ?_
    show Steps p.tables e below (T1228.setTop (mkF m 189 #[.val (.int p0), .val (.int p1), .val (.int p2), .val (.ref b1036), .val (.ref b1141), .val (.ref b1161), .val (.ref b1186)] [(.int (2 : Int32)), (.ref b1161), (.int (own_b ((fp0_1211 2) < (fsz_1211 0))))])) _
    exact kq)
  obtain ⟨cl1231, Ar1231, q1231, S1231, M1231, H1231⟩ := id Ia1211
  have hi1232 : ¬ ((2 : Int32) < 0 ∨ cl1231.slots.size ≤ ((2 : Int32)).toNatClampNeg) := (inb_of S1231 ⟨by decide, by decide⟩)
  have G1233 : Go p e below A0 (T1228.setTop (mkF m 197 #[.val (.int p0), .val (.int p1), .val (.int p2), .val (.ref b1036), .val (.ref b1141), .val (.ref b1161), .val (.ref b1186)] [(.int (3 : Int32)), (.int (0 : Int32)), (.ref b1141)])) := fun tq kq => G1230 tq (by
    refine X1228.baloadBooleans hx (j := (2 : Int32)) (v := (.int (own_b ((fp0_1211 2) < (fsz_1211 0))))) (by rw [e1228]; exact Ar1231.1) (State.isArrayOf_alike hZ.alike Ar1231.2.1) Ar1231.2.2 hi1232 ((H1231 _ (S1231 ▸ Nat.lt_of_not_le fun y => hi1232 (Or.inr y))).trans (congrArg some (congrArg Value.int (hst1211.2.2.2.2.1 2 (by decide))))) (g := (mkF m 189 #[.val (.int p0), .val (.int p1), .val (.int p2), .val (.ref b1036), .val (.ref b1141), .val (.ref b1161), .val (.ref b1186)] [(.int (2 : Int32)), (.ref b1161), (.int (own_b ((fp0_1211 2) < (fsz_1211 0))))])) rfl rfl (hb hby at_189) _ ?_
    show Steps p.tables e below (T1228.setTop (mkF m 190 #[.val (.int p0), .val (.int p1), .val (.int p2), .val (.ref b1036), .val (.ref b1141), .val (.ref b1161), .val (.ref b1186)] [(.int (own_b ((fp0_1211 2) < (fsz_1211 0)))), (.int (own_b ((fp0_1211 2) < (fsz_1211 0))))])) _
    refine XS.icmpNo X1228.here hx rfl (hb hby at_190) rfl (teq (rfl : (own_b ((fp0_1211 2) < (fsz_1211 0))) = (own_b ((fp0_1211 2) < (fsz_1211 0))))).2 ?_
    show Steps p.tables e below (T1228.setTop (mkF m 193 #[.val (.int p0), .val (.int p1), .val (.int p2), .val (.ref b1036), .val (.ref b1141), .val (.ref b1161), .val (.ref b1186)] [])) _
    refine XS.aload X1228.here hx rfl (hb hby at_193) rfl rfl ?_
    show Steps p.tables e below (T1228.setTop (mkF m 195 #[.val (.int p0), .val (.int p1), .val (.int p2), .val (.ref b1036), .val (.ref b1141), .val (.ref b1161), .val (.ref b1186)] [(.ref b1141)])) _
    refine XS.iconst X1228.here hx rfl (hb hby at_195) ?_
    show Steps p.tables e below (T1228.setTop (mkF m 196 #[.val (.int p0), .val (.int p1), .val (.int p2), .val (.ref b1036), .val (.ref b1141), .val (.ref b1161), .val (.ref b1186)] [(.int (0 : Int32)), (.ref b1141)])) _
    refine XS.iconst X1228.here hx rfl (hb hby at_196) ?_
    show Steps p.tables e below (T1228.setTop (mkF m 197 #[.val (.int p0), .val (.int p1), .val (.int p2), .val (.ref b1036), .val (.ref b1141), .val (.ref b1161), .val (.ref b1186)] [(.int (3 : Int32)), (.int (0 : Int32)), (.ref b1141)])) _
    exact kq)
  obtain ⟨cq1234, kq1234, q1234a, q1234b, q1234c⟩ := isOf hZ e1228 dom1211.1
  obtain ⟨_, _, ⟨T1234, L1234, k1234, n1234⟩, -, X1234, ⟨Lc1234, hQ1234, l1234, y1234, z1234⟩, st1234⟩ := X1228.virtualBack hx (y := (⟨"com/example/ludarc/ludarc/engine/Domains", "contains", "(II)Z"⟩ : MethodName)) (z := (⟨"com/example/ludarc/ludarc/engine/Domains", "contains", "(II)Z"⟩ : MethodName)) hown (mvT hZ (hw _ (List.mem_of_getElem? (i := 155) rfl))) (mvT hZ (hw _ (List.mem_of_getElem? (i := 156) rfl))) (notFace_of_selects (args := #[]) (mvT hZ (hw _ (List.mem_of_getElem? (i := 158) rfl)))) (mvT hZ (hw _ (List.mem_of_getElem? (i := 158) rfl))) (mvT hZ (hw _ (List.mem_of_getElem? (i := 157) rfl))) (by decide) (backOf (W := 0) (rmC0_3 l Z a0 hw [] b1141 mem_ pos_ siz_ mrk_ m0_ p0_ k0_ m1_ p1_ k1_ (1 : Int32) fsz_1211 fm0_1211 fp0_1211 own_zero fm1_1211 fp1_1211 own_zero T1211.heap n0 f1216 ord1146 dom1211) hZ (hw _ (List.mem_of_getElem? (i := 159) rfl)) (hw _ (List.mem_of_getElem? (i := 86) rfl)) (by decide) (by decide)) q1234a q1234c (g := (mkF m 197 #[.val (.int p0), .val (.int p1), .val (.int p2), .val (.ref b1036), .val (.ref b1141), .val (.ref b1161), .val (.ref b1186)] [(.int (3 : Int32)), (.int (0 : Int32)), (.ref b1141)])) rfl (by rw [hml]; rfl) (Steps.refl _) (argsL := [(.int (0 : Int32)), (.int (3 : Int32))]) (rest := []) (lenOf pd_14 rfl) rfl (by show 2 * 0 + _ ≤ _; exact Nat.le_of_eq rfl) (hb hby at_197) (fun _ _ => ⟨rfl, e1228, (by decide : 23 + 0 ≤ _), (by decide : 82 + 0 ≤ _)⟩)
  dsimp only [Pt.U, Pt.locs, Pt.cells, Pt.slots] at X1234 l1234 y1234 z1234 st1234 hQ1234
  obtain rfl : k1234 = 23 := y1234
  obtain rfl : n1234 = 82 := z1234
  obtain ⟨rfl, N1234q, e1234⟩ := hQ1234
  have N1234 : Fr n0 L1234 := by rw [l1234]; exact Fr.app N1228 N1234q
  have G1235 : Go p e below A0 (T1234.setTop (mkF m 200 #[.val (.int p0), .val (.int p1), .val (.int p2), .val (.ref b1036), .val (.ref b1141), .val (.ref b1161), .val (.ref b1186)] [(.int (own_b ((fp0_1211 3) < (fsz_1211 0))))])) := fun tq kq => G1233 tq (st1234.trans kq)
  have G1236 : Go p e below A0 (T1234.setTop (mkF m 203 #[.val (.int p0), .val (.int p1), .val (.int p2), .val (.ref b1036), .val (.ref b1141), .val (.ref b1161), .val (.ref b1186)] [(.int (3 : Int32)), (.ref b1161), (.int (own_b ((fp0_1211 3) < (fsz_1211 0))))])) := fun tq kq => G1235 tq (by
    refine XS.aload X1234.here hx rfl (hb hby at_200) rfl rfl ?_
    show Steps p.tables e below (T1234.setTop (mkF m 202 #[.val (.int p0), .val (.int p1), .val (.int p2), .val (.ref b1036), .val (.ref b1141), .val (.ref b1161), .val (.ref b1186)] [(.ref b1161), (.int (own_b ((fp0_1211 3) < (fsz_1211 0))))])) _
    refine XS.iconst X1234.here hx rfl (hb hby at_202) ?_
    show Steps p.tables e below (T1234.setTop (mkF m 203 #[.val (.int p0), .val (.int p1), .val (.int p2), .val (.ref b1036), .val (.ref b1141), .val (.ref b1161), .val (.ref b1186)] [(.int (3 : Int32)), (.ref b1161), (.int (own_b ((fp0_1211 3) < (fsz_1211 0))))])) _
    exact kq)
  obtain ⟨cl1237, Ar1237, q1237, S1237, M1237, H1237⟩ := id Ia1211
  have hi1238 : ¬ ((3 : Int32) < 0 ∨ cl1237.slots.size ≤ ((3 : Int32)).toNatClampNeg) := (inb_of S1237 ⟨by decide, by decide⟩)
  have G1239 : Go p e below A0 (T1234.setTop (mkF m 211 #[.val (.int p0), .val (.int p1), .val (.int p2), .val (.ref b1036), .val (.ref b1141), .val (.ref b1161), .val (.ref b1186)] [(.int (0 : Int32)), (.int (1 : Int32)), (.ref b1141)])) := fun tq kq => G1236 tq (by
    refine X1234.baloadBooleans hx (j := (3 : Int32)) (v := (.int (own_b ((fp0_1211 3) < (fsz_1211 0))))) (by rw [e1234]; exact Ar1237.1) (State.isArrayOf_alike hZ.alike Ar1237.2.1) Ar1237.2.2 hi1238 ((H1237 _ (S1237 ▸ Nat.lt_of_not_le fun y => hi1238 (Or.inr y))).trans (congrArg some (congrArg Value.int (hst1211.2.2.2.2.1 3 (by decide))))) (g := (mkF m 203 #[.val (.int p0), .val (.int p1), .val (.int p2), .val (.ref b1036), .val (.ref b1141), .val (.ref b1161), .val (.ref b1186)] [(.int (3 : Int32)), (.ref b1161), (.int (own_b ((fp0_1211 3) < (fsz_1211 0))))])) rfl rfl (hb hby at_203) _ ?_
    show Steps p.tables e below (T1234.setTop (mkF m 204 #[.val (.int p0), .val (.int p1), .val (.int p2), .val (.ref b1036), .val (.ref b1141), .val (.ref b1161), .val (.ref b1186)] [(.int (own_b ((fp0_1211 3) < (fsz_1211 0)))), (.int (own_b ((fp0_1211 3) < (fsz_1211 0))))])) _
    refine XS.icmpNo X1234.here hx rfl (hb hby at_204) rfl (teq (rfl : (own_b ((fp0_1211 3) < (fsz_1211 0))) = (own_b ((fp0_1211 3) < (fsz_1211 0))))).2 ?_
    show Steps p.tables e below (T1234.setTop (mkF m 207 #[.val (.int p0), .val (.int p1), .val (.int p2), .val (.ref b1036), .val (.ref b1141), .val (.ref b1161), .val (.ref b1186)] [])) _
    refine XS.aload X1234.here hx rfl (hb hby at_207) rfl rfl ?_
    show Steps p.tables e below (T1234.setTop (mkF m 209 #[.val (.int p0), .val (.int p1), .val (.int p2), .val (.ref b1036), .val (.ref b1141), .val (.ref b1161), .val (.ref b1186)] [(.ref b1141)])) _
    refine XS.iconst X1234.here hx rfl (hb hby at_209) ?_
    show Steps p.tables e below (T1234.setTop (mkF m 210 #[.val (.int p0), .val (.int p1), .val (.int p2), .val (.ref b1036), .val (.ref b1141), .val (.ref b1161), .val (.ref b1186)] [(.int (1 : Int32)), (.ref b1141)])) _
    refine XS.iconst X1234.here hx rfl (hb hby at_210) ?_
    show Steps p.tables e below (T1234.setTop (mkF m 211 #[.val (.int p0), .val (.int p1), .val (.int p2), .val (.ref b1036), .val (.ref b1141), .val (.ref b1161), .val (.ref b1186)] [(.int (0 : Int32)), (.int (1 : Int32)), (.ref b1141)])) _
    exact kq)
  obtain ⟨cq1240, kq1240, q1240a, q1240b, q1240c⟩ := isOf hZ e1234 dom1211.1
  obtain ⟨_, _, ⟨T1240, L1240, k1240, n1240⟩, -, X1240, ⟨Lc1240, hQ1240, l1240, y1240, z1240⟩, st1240⟩ := X1234.virtualBack hx (y := (⟨"com/example/ludarc/ludarc/engine/Domains", "contains", "(II)Z"⟩ : MethodName)) (z := (⟨"com/example/ludarc/ludarc/engine/Domains", "contains", "(II)Z"⟩ : MethodName)) hown (mvT hZ (hw _ (List.mem_of_getElem? (i := 155) rfl))) (mvT hZ (hw _ (List.mem_of_getElem? (i := 156) rfl))) (notFace_of_selects (args := #[]) (mvT hZ (hw _ (List.mem_of_getElem? (i := 158) rfl)))) (mvT hZ (hw _ (List.mem_of_getElem? (i := 158) rfl))) (mvT hZ (hw _ (List.mem_of_getElem? (i := 157) rfl))) (by decide) (backOf (W := 0) (rmC1_0 l Z a0 hw [] b1141 mem_ pos_ siz_ mrk_ m0_ p0_ k0_ m1_ p1_ k1_ (1 : Int32) fsz_1211 fm0_1211 fp0_1211 own_zero fm1_1211 fp1_1211 own_zero T1211.heap n0 f1216 ord1146 dom1211) hZ (hw _ (List.mem_of_getElem? (i := 159) rfl)) (hw _ (List.mem_of_getElem? (i := 86) rfl)) (by decide) (by decide)) q1240a q1240c (g := (mkF m 211 #[.val (.int p0), .val (.int p1), .val (.int p2), .val (.ref b1036), .val (.ref b1141), .val (.ref b1161), .val (.ref b1186)] [(.int (0 : Int32)), (.int (1 : Int32)), (.ref b1141)])) rfl (by rw [hml]; rfl) (Steps.refl _) (argsL := [(.int (1 : Int32)), (.int (0 : Int32))]) (rest := []) (lenOf pd_14 rfl) rfl (by show 2 * 0 + _ ≤ _; exact Nat.le_of_eq rfl) (hb hby at_211) (fun _ _ => ⟨rfl, e1234, (by decide : 23 + 0 ≤ _), (by decide : 82 + 0 ≤ _)⟩)
  dsimp only [Pt.U, Pt.locs, Pt.cells, Pt.slots] at X1240 l1240 y1240 z1240 st1240 hQ1240
  obtain rfl : k1240 = 23 := y1240
  obtain rfl : n1240 = 82 := z1240
  obtain ⟨rfl, N1240q, e1240⟩ := hQ1240
  have N1240 : Fr n0 L1240 := by rw [l1240]; exact Fr.app N1234 N1240q
  have G1241 : Go p e below A0 (T1240.setTop (mkF m 214 #[.val (.int p0), .val (.int p1), .val (.int p2), .val (.ref b1036), .val (.ref b1141), .val (.ref b1161), .val (.ref b1186)] [(.int (own_b ((fp1_1211 0) < (fsz_1211 1))))])) := fun tq kq => G1239 tq (st1240.trans kq)
  have G1242 : Go p e below A0 (T1240.setTop (mkF m 217 #[.val (.int p0), .val (.int p1), .val (.int p2), .val (.ref b1036), .val (.ref b1141), .val (.ref b1161), .val (.ref b1186)] [(.int (0 : Int32)), (.ref b1186), (.int (own_b ((fp1_1211 0) < (fsz_1211 1))))])) := fun tq kq => G1241 tq (by
    refine XS.aload X1240.here hx rfl (hb hby at_214) rfl rfl ?_
    show Steps p.tables e below (T1240.setTop (mkF m 216 #[.val (.int p0), .val (.int p1), .val (.int p2), .val (.ref b1036), .val (.ref b1141), .val (.ref b1161), .val (.ref b1186)] [(.ref b1186), (.int (own_b ((fp1_1211 0) < (fsz_1211 1))))])) _
    refine XS.iconst X1240.here hx rfl (hb hby at_216) ?_
    show Steps p.tables e below (T1240.setTop (mkF m 217 #[.val (.int p0), .val (.int p1), .val (.int p2), .val (.ref b1036), .val (.ref b1141), .val (.ref b1161), .val (.ref b1186)] [(.int (0 : Int32)), (.ref b1186), (.int (own_b ((fp1_1211 0) < (fsz_1211 1))))])) _
    exact kq)
  obtain ⟨cl1243, Ar1243, q1243, S1243, M1243, H1243⟩ := id Ib1211
  have hi1244 : ¬ ((0 : Int32) < 0 ∨ cl1243.slots.size ≤ ((0 : Int32)).toNatClampNeg) := (inb_of S1243 ⟨by decide, by decide⟩)
  have G1245 : Go p e below A0 (T1240.setTop (mkF m 225 #[.val (.int p0), .val (.int p1), .val (.int p2), .val (.ref b1036), .val (.ref b1141), .val (.ref b1161), .val (.ref b1186)] [(.int (1 : Int32)), (.int (1 : Int32)), (.ref b1141)])) := fun tq kq => G1242 tq (by
    refine X1240.baloadBooleans hx (j := (0 : Int32)) (v := (.int (own_b ((fp1_1211 0) < (fsz_1211 1))))) (by rw [e1240]; exact Ar1243.1) (State.isArrayOf_alike hZ.alike Ar1243.2.1) Ar1243.2.2 hi1244 ((H1243 _ (S1243 ▸ Nat.lt_of_not_le fun y => hi1244 (Or.inr y))).trans (congrArg some (congrArg Value.int (hst1211.2.2.2.2.2 0 (by decide))))) (g := (mkF m 217 #[.val (.int p0), .val (.int p1), .val (.int p2), .val (.ref b1036), .val (.ref b1141), .val (.ref b1161), .val (.ref b1186)] [(.int (0 : Int32)), (.ref b1186), (.int (own_b ((fp1_1211 0) < (fsz_1211 1))))])) rfl rfl (hb hby at_217) _ ?_
    show Steps p.tables e below (T1240.setTop (mkF m 218 #[.val (.int p0), .val (.int p1), .val (.int p2), .val (.ref b1036), .val (.ref b1141), .val (.ref b1161), .val (.ref b1186)] [(.int (own_b ((fp1_1211 0) < (fsz_1211 1)))), (.int (own_b ((fp1_1211 0) < (fsz_1211 1))))])) _
    refine XS.icmpNo X1240.here hx rfl (hb hby at_218) rfl (teq (rfl : (own_b ((fp1_1211 0) < (fsz_1211 1))) = (own_b ((fp1_1211 0) < (fsz_1211 1))))).2 ?_
    show Steps p.tables e below (T1240.setTop (mkF m 221 #[.val (.int p0), .val (.int p1), .val (.int p2), .val (.ref b1036), .val (.ref b1141), .val (.ref b1161), .val (.ref b1186)] [])) _
    refine XS.aload X1240.here hx rfl (hb hby at_221) rfl rfl ?_
    show Steps p.tables e below (T1240.setTop (mkF m 223 #[.val (.int p0), .val (.int p1), .val (.int p2), .val (.ref b1036), .val (.ref b1141), .val (.ref b1161), .val (.ref b1186)] [(.ref b1141)])) _
    refine XS.iconst X1240.here hx rfl (hb hby at_223) ?_
    show Steps p.tables e below (T1240.setTop (mkF m 224 #[.val (.int p0), .val (.int p1), .val (.int p2), .val (.ref b1036), .val (.ref b1141), .val (.ref b1161), .val (.ref b1186)] [(.int (1 : Int32)), (.ref b1141)])) _
    refine XS.iconst X1240.here hx rfl (hb hby at_224) ?_
    show Steps p.tables e below (T1240.setTop (mkF m 225 #[.val (.int p0), .val (.int p1), .val (.int p2), .val (.ref b1036), .val (.ref b1141), .val (.ref b1161), .val (.ref b1186)] [(.int (1 : Int32)), (.int (1 : Int32)), (.ref b1141)])) _
    exact kq)
  obtain ⟨cq1246, kq1246, q1246a, q1246b, q1246c⟩ := isOf hZ e1240 dom1211.1
  obtain ⟨_, _, ⟨T1246, L1246, k1246, n1246⟩, -, X1246, ⟨Lc1246, hQ1246, l1246, y1246, z1246⟩, st1246⟩ := X1240.virtualBack hx (y := (⟨"com/example/ludarc/ludarc/engine/Domains", "contains", "(II)Z"⟩ : MethodName)) (z := (⟨"com/example/ludarc/ludarc/engine/Domains", "contains", "(II)Z"⟩ : MethodName)) hown (mvT hZ (hw _ (List.mem_of_getElem? (i := 155) rfl))) (mvT hZ (hw _ (List.mem_of_getElem? (i := 156) rfl))) (notFace_of_selects (args := #[]) (mvT hZ (hw _ (List.mem_of_getElem? (i := 158) rfl)))) (mvT hZ (hw _ (List.mem_of_getElem? (i := 158) rfl))) (mvT hZ (hw _ (List.mem_of_getElem? (i := 157) rfl))) (by decide) (backOf (W := 0) (rmC1_1 l Z a0 hw [] b1141 mem_ pos_ siz_ mrk_ m0_ p0_ k0_ m1_ p1_ k1_ (1 : Int32) fsz_1211 fm0_1211 fp0_1211 own_zero fm1_1211 fp1_1211 own_zero T1211.heap n0 f1216 ord1146 dom1211) hZ (hw _ (List.mem_of_getElem? (i := 159) rfl)) (hw _ (List.mem_of_getElem? (i := 86) rfl)) (by decide) (by decide)) q1246a q1246c (g := (mkF m 225 #[.val (.int p0), .val (.int p1), .val (.int p2), .val (.ref b1036), .val (.ref b1141), .val (.ref b1161), .val (.ref b1186)] [(.int (1 : Int32)), (.int (1 : Int32)), (.ref b1141)])) rfl (by rw [hml]; rfl) (Steps.refl _) (argsL := [(.int (1 : Int32)), (.int (1 : Int32))]) (rest := []) (lenOf pd_14 rfl) rfl (by show 2 * 0 + _ ≤ _; exact Nat.le_of_eq rfl) (hb hby at_225) (fun _ _ => ⟨rfl, e1240, (by decide : 23 + 0 ≤ _), (by decide : 82 + 0 ≤ _)⟩)
  dsimp only [Pt.U, Pt.locs, Pt.cells, Pt.slots] at X1246 l1246 y1246 z1246 st1246 hQ1246
  obtain rfl : k1246 = 23 := y1246
  obtain rfl : n1246 = 82 := z1246
  obtain ⟨rfl, N1246q, e1246⟩ := hQ1246
  have N1246 : Fr n0 L1246 := by rw [l1246]; exact Fr.app N1240 N1246q
  have G1247 : Go p e below A0 (T1246.setTop (mkF m 228 #[.val (.int p0), .val (.int p1), .val (.int p2), .val (.ref b1036), .val (.ref b1141), .val (.ref b1161), .val (.ref b1186)] [(.int (own_b ((fp1_1211 1) < (fsz_1211 1))))])) := fun tq kq => G1245 tq (st1246.trans kq)
  have G1248 : Go p e below A0 (T1246.setTop (mkF m 231 #[.val (.int p0), .val (.int p1), .val (.int p2), .val (.ref b1036), .val (.ref b1141), .val (.ref b1161), .val (.ref b1186)] [(.int (1 : Int32)), (.ref b1186), (.int (own_b ((fp1_1211 1) < (fsz_1211 1))))])) := fun tq kq => G1247 tq (by
    refine XS.aload X1246.here hx rfl (hb hby at_228) rfl rfl ?_
    show Steps p.tables e below (T1246.setTop (mkF m 230 #[.val (.int p0), .val (.int p1), .val (.int p2), .val (.ref b1036), .val (.ref b1141), .val (.ref b1161), .val (.ref b1186)] [(.ref b1186), (.int (own_b ((fp1_1211 1) < (fsz_1211 1))))])) _
    refine XS.iconst X1246.here hx rfl (hb hby at_230) ?_
    show Steps p.tables e below (T1246.setTop (mkF m 231 #[.val (.int p0), .val (.int p1), .val (.int p2), .val (.ref b1036), .val (.ref b1141), .val (.ref b1161), .val (.ref b1186)] [(.int (1 : Int32)), (.ref b1186), (.int (own_b ((fp1_1211 1) < (fsz_1211 1))))])) _
    exact kq)
  obtain ⟨cl1249, Ar1249, q1249, S1249, M1249, H1249⟩ := id Ib1211
  have hi1250 : ¬ ((1 : Int32) < 0 ∨ cl1249.slots.size ≤ ((1 : Int32)).toNatClampNeg) := (inb_of S1249 ⟨by decide, by decide⟩)
  have G1251 : Go p e below A0 (T1246.setTop (mkF m 240 #[.val (.int p0), .val (.int p1), .val (.int p2), .val (.ref b1036), .val (.ref b1141), .val (.ref b1161), .val (.ref b1186)] [(.int (1 : Int32))])) := fun tq kq => G1248 tq (by
    refine X1246.baloadBooleans hx (j := (1 : Int32)) (v := (.int (own_b ((fp1_1211 1) < (fsz_1211 1))))) (by rw [e1246]; exact Ar1249.1) (State.isArrayOf_alike hZ.alike Ar1249.2.1) Ar1249.2.2 hi1250 ((H1249 _ (S1249 ▸ Nat.lt_of_not_le fun y => hi1250 (Or.inr y))).trans (congrArg some (congrArg Value.int (hst1211.2.2.2.2.2 1 (by decide))))) (g := (mkF m 231 #[.val (.int p0), .val (.int p1), .val (.int p2), .val (.ref b1036), .val (.ref b1141), .val (.ref b1161), .val (.ref b1186)] [(.int (1 : Int32)), (.ref b1186), (.int (own_b ((fp1_1211 1) < (fsz_1211 1))))])) rfl rfl (hb hby at_231) _ ?_
    show Steps p.tables e below (T1246.setTop (mkF m 232 #[.val (.int p0), .val (.int p1), .val (.int p2), .val (.ref b1036), .val (.ref b1141), .val (.ref b1161), .val (.ref b1186)] [(.int (own_b ((fp1_1211 1) < (fsz_1211 1)))), (.int (own_b ((fp1_1211 1) < (fsz_1211 1))))])) _
    refine XS.icmpNo X1246.here hx rfl (hb hby at_232) rfl (teq (rfl : (own_b ((fp1_1211 1) < (fsz_1211 1))) = (own_b ((fp1_1211 1) < (fsz_1211 1))))).2 ?_
    show Steps p.tables e below (T1246.setTop (mkF m 235 #[.val (.int p0), .val (.int p1), .val (.int p2), .val (.ref b1036), .val (.ref b1141), .val (.ref b1161), .val (.ref b1186)] [])) _
    refine XS.iconst X1246.here hx rfl (hb hby at_235) ?_
    show Steps p.tables e below (T1246.setTop (mkF m 236 #[.val (.int p0), .val (.int p1), .val (.int p2), .val (.ref b1036), .val (.ref b1141), .val (.ref b1161), .val (.ref b1186)] [(.int (1 : Int32))])) _
    refine XS.goto X1246.here hx rfl (pc0 := 236) (pc' := 240) rfl (hb hby at_236) (by decide) (by decide) ?_
    show Steps p.tables e below (T1246.setTop (mkF m 240 #[.val (.int p0), .val (.int p1), .val (.int p2), .val (.ref b1036), .val (.ref b1141), .val (.ref b1161), .val (.ref b1186)] [(.int (1 : Int32))])) _
    exact kq)
  have f1252 := (Nat.le_trans (Nat.le_trans (Nat.le_trans (Nat.le_trans (Nat.le_trans (Nat.le_trans (Nat.le_trans (Nat.le_trans (Nat.le_trans (Nat.le_trans (Nat.le_trans (Nat.le_trans (Nat.le_trans (Nat.le_trans (Nat.le_trans (Nat.le_trans (Nat.le_trans (Nat.le_trans hk1103 E1107.1) (Keep.of_wr W1114).1) (Keep.of_wr W1119).1) K1122.1) K1131.1) E1141.1) K1146.1) E1161.1) (Keep.of_wr W1168).1) (Keep.of_wr W1173).1) (Keep.of_wr W1178).1) (Keep.of_wr W1183).1) E1186.1) (Keep.of_wr W1193).1) (Keep.of_wr W1198).1) K1201.1) K1207.1) K1211.1)
  obtain ⟨fs, hr, hrun, hended, hRW⟩ := X1246.leaveW (s := s) (vm₁ := T1103.vm) hS (by rw [e1246]; exact f1252) (v := some (.int (nar .boolean (1 : Int32)))) (fun h => by rw [Bd.returns] at h; cases h)
  refine ⟨_, _, (by rw [← hA0]; exact G1251 _ (retN X1246 hx (t := .boolean) Bd.returns (by simp) (hb hby at_240) hr)), hrun, hended, _, _, rfl, ?_, hRW.1, hRW.2.1, hRW.2.2.1, hRW.2.2.2.mono (by decide) (by decide)⟩
  exact ⟨rfl, N1246⟩
set_option maxRecDepth 65536 in
set_option maxHeartbeats 40000000 in
theorem comes_1 {Post : Tables → Env → Array Value → State → Outcome → State → Prop} (hpost : ∀ tb e args s v u, (limb_1_1.after args s (.returned v) u = true ∧ limb_1_2.after args s (.returned v) u = true ∧ True) → ReturnedEndW s (.returned v) u (Jvm.fieldLocs frame_1_writes args s ++ Jvm.arrayLocs frame_1_arrays args s ++ Jvm.staticLocs frame_1_statics s) 56 2304 → Post tb e args s (.returned v) u) :
    ArmFor flags0 classFile x code maxLocals ret World_1 tables_1 room_1 Calls_1 rest_1 Pre_1 Post := by
  intro l hfl _ _ p e ha hc hk s m args below hf hA hF happ hP
  obtain ⟨hcalls, hrest, hpre⟩ := hP
  obtain ⟨-, -, -, hnamed, -, -, -, hat⟩ := (Spec.applies_iff hf).mp happ
  obtain ⟨hg, hn⟩ := and_e (Cond.before_iff.mp (show (Jvm.Cond.and given_1 narrow_1).before args s = true from hpre))
  obtain ⟨g1, g2⟩ := and_e hg
  obtain ⟨g3, g4⟩ := and_e g2
  obtain ⟨g5, g6⟩ := and_e g4
  obtain ⟨w0, w1, w2, rfl⟩ : ∃ w0 w1 w2 : Value, args = #[w0, w1, w2] := by
    have hs : args.size = 3 := by simpa [Cond.value, given_1] using g1
    obtain ⟨L⟩ := args
    match L, hs with
    | [w0, w1, w2], _ => exact ⟨w0, w1, w2, rfl⟩
  have hw := fun d (hd : d ∈ tables_1) => atoms_spec (ws := Jvm.Cond.code x code maxLocals ret :: tables_1) hat d (List.mem_cons_of_mem _ hd)
  have hfit : Fit s := fun {y c} hc i hi => by
    obtain ⟨ha, rfl⟩ := Array.getElem?_eq_some_iff.mp hc
    have q := List.all_eq_true.mp ((Array.all_eq_true_iff_forall_mem.mp hF) _ (Array.getElem_mem ha)) i (List.mem_range.mpr hi)
    simpa [Array.getElem?_eq_getElem hi] using q
  obtain ⟨hsets, hown0⟩ := atoms_of _ (rest_1_c_eq ▸ (show rest_1_c.before _ s = true from hrest))
  have hr0 := Cond.before_iff.mp hown0
  obtain ⟨i0, ei0⟩ := is_v g3
  obtain rfl : w0 = (.int i0) := Option.some.inj ei0
  obtain ⟨i1, ei1⟩ := is_v g5
  obtain rfl : w1 = (.int i1) := Option.some.inj ei1
  obtain ⟨i2, ei2⟩ := is_v g6
  obtain rfl : w2 = (.int i2) := Option.some.inj ei2
  have hs2 := Cond.before_iff.mp (hsets _ (List.mem_of_getElem? (i := 6) rfl))
  obtain ⟨da, eda⟩ := arr_v hs2
  obtain ⟨cda, Ada⟩ := Arr.start eda hs2
  have hSd : Sta s s.heap "java/util/ArrayList" "DEFAULTCAPACITY_EMPTY_ELEMENTDATA" "[Ljava/lang/Object;" (.ref da) := Sta.start eda (Or.inr ⟨(hw _ (List.mem_of_getElem? (i := 2) rfl)), (hsets _ (List.mem_of_getElem? (i := 2) rfl))⟩)
  have hl := own_arv Ada eda (own_eqI (Cond.before_iff.mp (hsets _ (List.mem_of_getElem? (i := 8) rfl))))
  have hAd : Arv s s.heap da cda.cls (.object "java/lang/Object") (0 : Int32) [] .null := Arv.start hfit Ada hl.1 hl.2 (by decide) rfl trivial
  obtain ⟨n, o, h1, h2, h3, _, L, rfl, ⟨rfl, N⟩, hq⟩ := rm0 l s _ hw tables_1 i0 i1 i2 da cda.cls s.heap s.heap.size (Nat.le_refl _) (Old.start s) hSd hAd p e ha hc hk s m _ below hf ((Spec.applies_iff_loose hf).mp happ).1 ⟨rfl, State.Warmed39.refl s, rfl⟩ trivial
  refine ⟨n, _, h1, h2, h3, hpost _ _ _ _ _ _ ⟨Cond.after_iff.mpr rfl, Cond.after_iff.mpr (eq_i res_at (Term.int_eval (1)) rfl), trivial⟩ ⟨hq.1, hq.2.1, hq.2.2.1, (hq.2.2.2.sift fun y hy => Or.inr (N y hy)).mono (by decide) (by decide)⟩⟩
theorem main_1_1 : Claimed_1_1 := comes_1 fun _ _ _ _ _ _ h hF => ⟨h.1, hF⟩
theorem main_1_2 : Claimed_1_2 := comes_1 fun _ _ _ _ _ _ h hF => ⟨h.2.1, hF⟩
end Jvm.Pilot.@@N@@
namespace Jvm.Pilot.@@N@@
open Jvm Jvm.ClassFile Sem Op Lib Jvm.Free Jvm.Stand Jvm.Pilot.@@N@@.Jvm.D
/-! MADE BY PROGRAM (witnessworld.py) out of the Statement's table words and the real class files: 29 classes; the members and pool entries that the words name. The judged class is class 1, her method 1. -/
namespace start1
open Jvm.ClassFile
def u (s : String) : CpInfo := .utf8 (stringToUtf16 s)
/-- a pool by its gaps: so many unusable entries, then the entry; so many at the end -/
def gap : Nat → List CpInfo → List CpInfo
  | 0, r => r
  | n + 1, r => .unusable :: gap n r
def poolList (es : List (Nat × CpInfo)) (last : Nat) : List CpInfo := es.foldr (fun e r => gap e.1 (e.2 :: r)) (gap last [])
def pool (es : List (Nat × CpInfo)) (last : Nat) : Array CpInfo := ⟨poolList es last⟩
def fileOf (pool : Array CpInfo) (this : Nat) (attrs : Array Attribute := #[]) (ms : Array MethodInfo := #[]) (fl : Nat := 33) (sup : Nat := 0) (ifs : Array Nat := #[]) (fds : Array FieldInfo := #[]) : ClassFile where
  minorVersion := 0
  majorVersion := 65
  constantPool := pool
  accessFlags := fl
  thisClass := this
  superClass := sup
  interfaces := ifs
  fields := fds
  methods := ms
  attributes := attrs
def plain (name : String) (sup : Option ClassId) : Class where
  name := name
  kind := .ordinary
  loader := none
  accessFlags := 33
  super := sup
  interfaces := #[]
  cf := none
  fields := #[]
  methods := #[]
  instanceTypes := #[]
  staticTypes := #[]
  resolved := #[]
  callSites := []
  init := .initialized
  statics := none
  mirror := none

def pool0 : Array CpInfo := pool [(5, u "<init>"), (0, u "()V"), (1, .class_ 10), (1, u "java/lang/Object")] 113

def k0c0 : Code := { maxStack := 0, maxLocals := 1, code := object_method_1_code, exceptionTable := #[], attributes := #[] }
def k0m0 : Method := { name := "<init>", desc := "()V", sig := { parameters := [], returnType := none }, accessFlags := 1, code := some k0c0 }
/-- java/lang/Object -/
def k0 : Class := { plain "java/lang/Object" none with
  accessFlags := 33
  interfaces := #[]
  cf := some (fileOf pool0 8 #[] #[{ accessFlags := 1, nameIndex := 5, descriptorIndex := 6, attributes := #[] }] 33 0 #[] #[])
  fields := #[]
  methods := #[k0m0]
  instanceTypes := #[]
  staticTypes := #[]
  resolved := Array.replicate 124 none
  statics := none }

def pool1 : Array CpInfo := pool [(2, .class_ 4), (0, .nameAndType 5 6), (0, u "java/lang/Object"), (0, u "<init>"), (0, u "()V"), (0, .class_ 8), (0, u "java/util/ArrayList"), (0, .methodref 7 3), (0, .class_ 11), (0, u "com/example/ludarc/ludarc/engine/Variable"), (0, .string 13), (0, u "x"), (0, .methodref 10 15), (0, .nameAndType 5 16), (0, u "(Lcom/example/ludarc/ludarc/engine/Network$Builder;ILjava/lang/String;[I[D)V"), (0, .methodref 7 18), (0, .nameAndType 19 20), (0, u "add"), (0, u "(Ljava/lang/Object;)Z"), (0, .string 22), (0, u "y"), (0, .class_ 24), (0, u "com/example/ludarc/ludarc/engine/Domains"), (0, .methodref 23 26), (0, .nameAndType 5 27), (0, u "(Ljava/util/List;)V"), (0, .methodref 29 30), (0, .class_ 31), (0, .nameAndType 32 33), (0, u "com/example/ludarc/ludarc/engine/DomainsContainsPinLaw"), (0, u "step"), (0, u "(Lcom/example/ludarc/ludarc/engine/Domains;[Z[ZI)V"), (0, .methodref 23 35), (0, .nameAndType 36 37), (0, u "contains"), (0, u "(II)Z"), (0, .methodref 23 39), (0, .nameAndType 40 41), (0, u "remove"), (0, u "(II)V"), (0, .methodref 23 43), (0, .nameAndType 44 41), (0, u "assign"), (2, u "law"), (0, u "(III)Z")] 11

def k1m0 : Method := { name := "<init>", desc := "()V", sig := { parameters := [], returnType := none }, accessFlags := 1, code := none }
def k1c1 : Code := { maxStack := 10, maxLocals := 7, code := code, exceptionTable := #[], attributes := #[] }
def k1m1 : Method := { name := "law", desc := "(III)Z", sig := { parameters := [.int, .int, .int], returnType := some .boolean }, accessFlags := 9, code := some k1c1 }
def k1c2 : Code := { maxStack := 3, maxLocals := 7, code := method_3_code, exceptionTable := #[], attributes := #[] }
def k1m2 : Method := { name := "step", desc := "(Lcom/example/ludarc/ludarc/engine/Domains;[Z[ZI)V", sig := { parameters := [(.object "com/example/ludarc/ludarc/engine/Domains"), (.array .boolean), (.array .boolean), .int], returnType := none }, accessFlags := 10, code := some k1c2 }
/-- com/example/ludarc/ludarc/engine/DomainsContainsPinLaw -/
def k1 : Class := { plain "com/example/ludarc/ludarc/engine/DomainsContainsPinLaw" (some 0) with
  accessFlags := 49
  interfaces := #[]
  cf := some (fileOf pool1 29 #[] #[{ accessFlags := 1, nameIndex := 5, descriptorIndex := 6, attributes := #[] }, { accessFlags := 9, nameIndex := 47, descriptorIndex := 48, attributes := #[] }, { accessFlags := 10, nameIndex := 32, descriptorIndex := 33, attributes := #[] }] 49 2 #[] #[])
  fields := #[]
  methods := #[k1m0, k1m1, k1m2]
  instanceTypes := #[]
  staticTypes := #[]
  resolved := Array.replicate 60 none
  statics := none }

def pool2 : Array CpInfo := pool [(8, .class_ 10), (1, u "java/lang/Iterable"), (24, .class_ 36), (0, u "java/lang/Object")] 25

/-- java/lang/Iterable -/
def k2 : Class := { plain "java/lang/Iterable" (some 0) with
  accessFlags := 1537
  interfaces := #[]
  cf := some (fileOf pool2 8 #[] #[] 1537 35 #[] #[])
  fields := #[]
  methods := #[]
  instanceTypes := #[]
  staticTypes := #[]
  resolved := Array.replicate 62 none
  statics := none }

def pool3 : Array CpInfo := pool [(10, .class_ 12), (1, u "java/util/Collection"), (47, .class_ 61), (0, u "java/lang/Object"), (0, .class_ 63), (0, u "java/lang/Iterable")] 51

/-- java/util/Collection -/
def k3 : Class := { plain "java/util/Collection" (some 0) with
  accessFlags := 1537
  interfaces := #[2]
  cf := some (fileOf pool3 10 #[] #[] 1537 60 #[62] #[])
  fields := #[]
  methods := #[]
  instanceTypes := #[]
  staticTypes := #[]
  resolved := Array.replicate 115 none
  statics := none }

def pool4 : Array CpInfo := pool [(1, .methodref 2 3), (0, .class_ 4), (0, .nameAndType 5 6), (0, u "java/lang/Object"), (0, u "<init>"), (0, u "()V"), (1, .class_ 10), (1, u "java/util/AbstractCollection"), (66, .class_ 78), (0, u "java/util/Collection")] 81

def k4c0 : Code := { maxStack := 1, maxLocals := 1, code := jdk_22_method_1_code, exceptionTable := #[], attributes := #[] }
def k4m0 : Method := { name := "<init>", desc := "()V", sig := { parameters := [], returnType := none }, accessFlags := 4, code := some k4c0 }
/-- java/util/AbstractCollection -/
def k4 : Class := { plain "java/util/AbstractCollection" (some 0) with
  accessFlags := 1057
  interfaces := #[3]
  cf := some (fileOf pool4 8 #[] #[{ accessFlags := 4, nameIndex := 5, descriptorIndex := 6, attributes := #[] }] 1057 2 #[77] #[])
  fields := #[]
  methods := #[k4m0]
  instanceTypes := #[]
  staticTypes := #[]
  resolved := Array.replicate 160 none
  statics := none }

def pool5 : Array CpInfo := pool [(8, .class_ 10), (1, u "java/util/SequencedCollection"), (15, .class_ 27), (0, u "java/lang/Object"), (0, .class_ 29), (0, u "java/util/Collection")] 27

/-- java/util/SequencedCollection -/
def k5 : Class := { plain "java/util/SequencedCollection" (some 0) with
  accessFlags := 1537
  interfaces := #[3]
  cf := some (fileOf pool5 8 #[] #[] 1537 26 #[28] #[])
  fields := #[]
  methods := #[]
  instanceTypes := #[]
  staticTypes := #[]
  resolved := Array.replicate 57 none
  statics := none }

def pool6 : Array CpInfo := pool [(8, .class_ 10), (1, u "java/util/List"), (64, u "get"), (0, u "(I)Ljava/lang/Object;"), (2, u "size"), (0, u "()I"), (22, .class_ 104), (0, u "java/lang/Object"), (15, .class_ 121), (0, u "java/util/SequencedCollection")] 129

def k6m0 : Method := { name := "size", desc := "()I", sig := { parameters := [], returnType := some .int }, accessFlags := 1025, code := none }
def k6m1 : Method := { name := "get", desc := "(I)Ljava/lang/Object;", sig := { parameters := [.int], returnType := some (.object "java/lang/Object") }, accessFlags := 1025, code := none }
/-- java/util/List -/
def k6 : Class := { plain "java/util/List" (some 0) with
  accessFlags := 1537
  interfaces := #[5]
  cf := some (fileOf pool6 8 #[] #[{ accessFlags := 1025, nameIndex := 79, descriptorIndex := 80, attributes := #[] }, { accessFlags := 1025, nameIndex := 75, descriptorIndex := 76, attributes := #[] }] 1537 103 #[120] #[])
  fields := #[]
  methods := #[k6m0, k6m1]
  instanceTypes := #[]
  staticTypes := #[]
  resolved := Array.replicate 251 none
  statics := none }

def pool7 : Array CpInfo := pool [(1, .methodref 2 3), (0, .class_ 4), (0, .nameAndType 5 6), (0, u "java/util/AbstractCollection"), (0, u "<init>"), (0, u "()V"), (0, .fieldref 8 9), (0, .class_ 10), (0, .nameAndType 11 12), (0, u "java/util/AbstractList"), (0, u "modCount"), (0, u "I"), (64, .class_ 78), (0, u "java/util/AbstractList$Itr"), (3, .class_ 83), (0, u "java/util/AbstractList$ListItr"), (9, .class_ 94), (0, u "java/util/AbstractList$RandomAccessSubList"), (3, .class_ 99), (0, u "java/util/AbstractList$SubList"), (33, .class_ 134), (0, u "java/util/List"), (73, .class_ 209), (0, u "java/util/AbstractList$SubList$1"), (0, .class_ 211), (0, u "java/util/AbstractList$RandomAccessSpliterator")] 6

def k7c0 : Code := { maxStack := 2, maxLocals := 1, code := jdk_39_method_1_code, exceptionTable := #[], attributes := #[] }
def k7m0 : Method := { name := "<init>", desc := "()V", sig := { parameters := [], returnType := none }, accessFlags := 4, code := some k7c0 }
/-- java/util/AbstractList -/
def k7 : Class := { plain "java/util/AbstractList" (some 4) with
  accessFlags := 1057
  interfaces := #[6]
  cf := some (fileOf pool7 8 #[.nestMembers #[93, 98, 208, 210, 82, 77]] #[{ accessFlags := 4, nameIndex := 5, descriptorIndex := 6, attributes := #[] }] 1057 2 #[133] #[{ accessFlags := 132, nameIndex := 11, descriptorIndex := 12, attributes := #[] }])
  fields := #[{ name := "modCount", type := .int, accessFlags := 132, slot := 0, constantValue := 0 }]
  methods := #[k7m0]
  instanceTypes := #[.int]
  staticTypes := #[]
  resolved := Array.replicate 218 none
  statics := none }

def pool8 : Array CpInfo := pool [(1, .class_ 2), (0, u "java/util/RandomAccess"), (0, .class_ 4), (0, u "java/lang/Object")] 2

/-- java/util/RandomAccess -/
def k8 : Class := { plain "java/util/RandomAccess" (some 0) with
  accessFlags := 1537
  interfaces := #[]
  cf := some (fileOf pool8 1 #[] #[] 1537 3 #[] #[])
  fields := #[]
  methods := #[]
  instanceTypes := #[]
  staticTypes := #[]
  resolved := Array.replicate 7 none
  statics := none }

def pool9 : Array CpInfo := pool [(1, .class_ 2), (0, u "java/lang/Cloneable"), (0, .class_ 4), (0, u "java/lang/Object")] 2

/-- java/lang/Cloneable -/
def k9 : Class := { plain "java/lang/Cloneable" (some 0) with
  accessFlags := 1537
  interfaces := #[]
  cf := some (fileOf pool9 1 #[] #[] 1537 3 #[] #[])
  fields := #[]
  methods := #[]
  instanceTypes := #[]
  staticTypes := #[]
  resolved := Array.replicate 7 none
  statics := none }

def pool10 : Array CpInfo := pool [(1, .class_ 2), (0, u "java/io/Serializable"), (0, .class_ 4), (0, u "java/lang/Object")] 2

/-- java/io/Serializable -/
def k10 : Class := { plain "java/io/Serializable" (some 0) with
  accessFlags := 1537
  interfaces := #[]
  cf := some (fileOf pool10 1 #[] #[] 1537 3 #[] #[])
  fields := #[]
  methods := #[]
  instanceTypes := #[]
  staticTypes := #[]
  resolved := Array.replicate 7 none
  statics := none }

def pool11 : Array CpInfo := pool [(1, .methodref 2 3), (0, .class_ 4), (0, .nameAndType 5 6), (0, u "java/util/AbstractList"), (0, u "<init>"), (0, u "()V"), (0, .class_ 8), (0, u "java/lang/Object"), (0, .fieldref 10 11), (0, .class_ 12), (0, .nameAndType 13 14), (0, u "java/util/ArrayList"), (0, u "elementData"), (0, u "[Ljava/lang/Object;"), (2, u "EMPTY_ELEMENTDATA"), (21, .fieldref 10 40), (0, .nameAndType 41 14), (0, u "DEFAULTCAPACITY_EMPTY_ELEMENTDATA"), (5, u "()[Ljava/lang/Object;"), (0, .fieldref 10 49), (0, .nameAndType 50 51), (0, u "size"), (0, u "I"), (11, .fieldref 10 64), (0, .nameAndType 65 51), (0, u "modCount"), (3, .methodref 10 70), (0, .nameAndType 71 72), (0, u "grow"), (0, u "(I)[Ljava/lang/Object;"), (6, .methodref 80 81), (0, .class_ 82), (0, .nameAndType 83 84), (0, u "java/lang/Math"), (0, u "max"), (0, u "(II)I"), (11, u "(Ljava/lang/Object;)Z"), (21, .methodref 119 120), (0, .class_ 121), (0, .nameAndType 122 84), (0, u "java/util/Objects"), (0, u "checkIndex"), (0, .methodref 10 124), (0, .nameAndType 13 125), (0, u "(I)Ljava/lang/Object;"), (3, .methodref 10 130), (0, .nameAndType 71 47), (0, .methodref 10 132), (0, .nameAndType 133 134), (0, u "add"), (0, u "(Ljava/lang/Object;[Ljava/lang/Object;I)V"), (13, .class_ 149), (0, u "java/util/List"), (36, u "()I"), (75, .class_ 263), (0, u "java/util/ArrayList$ListItr"), (3, .class_ 268), (0, u "java/util/ArrayList$Itr"), (7, .class_ 277), (0, u "java/util/ArrayList$SubList"), (12, .class_ 291), (0, u "java/util/ArrayList$ArrayListSpliterator"), (37, .class_ 330), (0, u "java/util/RandomAccess"), (0, .class_ 332), (0, u "java/lang/Cloneable"), (0, .class_ 334), (0, u "java/io/Serializable"), (0, u "serialVersionUID"), (0, u "J"), (3, u "DEFAULT_CAPACITY"), (40, u "get"), (118, .class_ 501), (0, u "java/util/ArrayList$SubList$2"), (0, .class_ 503), (0, u "java/util/ArrayList$SubList$1")] 5

def k11c0 : Code := { maxStack := 2, maxLocals := 1, code := jdk_38_method_2_code, exceptionTable := #[], attributes := #[] }
def k11m0 : Method := { name := "<init>", desc := "()V", sig := { parameters := [], returnType := none }, accessFlags := 1, code := some k11c0 }
def k11c1 : Code := { maxStack := 4, maxLocals := 4, code := jdk_38_method_6_code, exceptionTable := #[], attributes := #[] }
def k11m1 : Method := { name := "grow", desc := "(I)[Ljava/lang/Object;", sig := { parameters := [.int], returnType := some (.array (.object "java/lang/Object")) }, accessFlags := 2, code := some k11c1 }
def k11c2 : Code := { maxStack := 3, maxLocals := 1, code := jdk_38_method_7_code, exceptionTable := #[], attributes := #[] }
def k11m2 : Method := { name := "grow", desc := "()[Ljava/lang/Object;", sig := { parameters := [], returnType := some (.array (.object "java/lang/Object")) }, accessFlags := 2, code := some k11c2 }
def k11c3 : Code := { maxStack := 1, maxLocals := 1, code := jdk_38_method_8_code, exceptionTable := #[], attributes := #[] }
def k11m3 : Method := { name := "size", desc := "()I", sig := { parameters := [], returnType := some .int }, accessFlags := 1, code := some k11c3 }
def k11c4 : Code := { maxStack := 2, maxLocals := 2, code := jdk_38_method_18_code, exceptionTable := #[], attributes := #[] }
def k11m4 : Method := { name := "elementData", desc := "(I)Ljava/lang/Object;", sig := { parameters := [.int], returnType := some (.object "java/lang/Object") }, accessFlags := 0, code := some k11c4 }
def k11c5 : Code := { maxStack := 2, maxLocals := 2, code := jdk_38_method_20_code, exceptionTable := #[], attributes := #[] }
def k11m5 : Method := { name := "get", desc := "(I)Ljava/lang/Object;", sig := { parameters := [.int], returnType := some (.object "java/lang/Object") }, accessFlags := 1, code := some k11c5 }
def k11c6 : Code := { maxStack := 3, maxLocals := 4, code := jdk_38_method_24_code, exceptionTable := #[], attributes := #[] }
def k11m6 : Method := { name := "add", desc := "(Ljava/lang/Object;[Ljava/lang/Object;I)V", sig := { parameters := [(.object "java/lang/Object"), (.array (.object "java/lang/Object")), .int], returnType := none }, accessFlags := 2, code := some k11c6 }
def k11c7 : Code := { maxStack := 4, maxLocals := 2, code := jdk_38_method_25_code, exceptionTable := #[], attributes := #[] }
def k11m7 : Method := { name := "add", desc := "(Ljava/lang/Object;)Z", sig := { parameters := [(.object "java/lang/Object")], returnType := some .boolean }, accessFlags := 1, code := some k11c7 }
/-- java/util/ArrayList -/
def k11 : Class := { plain "java/util/ArrayList" (some 7) with
  accessFlags := 33
  interfaces := #[6, 8, 9, 10]
  cf := some (fileOf pool11 10 #[.nestMembers #[290, 276, 500, 502, 262, 267]] #[{ accessFlags := 1, nameIndex := 5, descriptorIndex := 6, attributes := #[] }, { accessFlags := 2, nameIndex := 71, descriptorIndex := 72, attributes := #[] }, { accessFlags := 2, nameIndex := 71, descriptorIndex := 47, attributes := #[] }, { accessFlags := 1, nameIndex := 50, descriptorIndex := 186, attributes := #[] }, { accessFlags := 0, nameIndex := 13, descriptorIndex := 125, attributes := #[] }, { accessFlags := 1, nameIndex := 381, descriptorIndex := 125, attributes := #[] }, { accessFlags := 2, nameIndex := 133, descriptorIndex := 134, attributes := #[] }, { accessFlags := 1, nameIndex := 133, descriptorIndex := 96, attributes := #[] }] 33 2 #[148, 329, 331, 333] #[{ accessFlags := 26, nameIndex := 335, descriptorIndex := 336, attributes := #[] }, { accessFlags := 26, nameIndex := 340, descriptorIndex := 51, attributes := #[] }, { accessFlags := 26, nameIndex := 17, descriptorIndex := 14, attributes := #[] }, { accessFlags := 26, nameIndex := 41, descriptorIndex := 14, attributes := #[] }, { accessFlags := 128, nameIndex := 13, descriptorIndex := 14, attributes := #[] }, { accessFlags := 2, nameIndex := 50, descriptorIndex := 51, attributes := #[] }])
  fields := #[{ name := "serialVersionUID", type := .long, accessFlags := 26, slot := 0, constantValue := 0 }, { name := "DEFAULT_CAPACITY", type := .int, accessFlags := 26, slot := 1, constantValue := 0 }, { name := "EMPTY_ELEMENTDATA", type := (.array (.object "java/lang/Object")), accessFlags := 26, slot := 2, constantValue := 0 }, { name := "DEFAULTCAPACITY_EMPTY_ELEMENTDATA", type := (.array (.object "java/lang/Object")), accessFlags := 26, slot := 3, constantValue := 0 }, { name := "elementData", type := (.array (.object "java/lang/Object")), accessFlags := 128, slot := 1, constantValue := 0 }, { name := "size", type := .int, accessFlags := 2, slot := 2, constantValue := 0 }]
  methods := #[k11m0, k11m1, k11m2, k11m3, k11m4, k11m5, k11m6, k11m7]
  instanceTypes := #[.int, (.array (.object "java/lang/Object")), .int]
  staticTypes := #[.long, .int, (.array (.object "java/lang/Object")), (.array (.object "java/lang/Object"))]
  resolved := Array.replicate 509 none
  statics := some 0 }

def pool12 : Array CpInfo := pool [(1, .methodref 2 3), (0, .class_ 4), (0, .nameAndType 5 6), (0, u "java/lang/Object"), (0, u "<init>"), (0, u "()V"), (0, .fieldref 8 9), (0, .class_ 10), (0, .nameAndType 11 12), (0, u "com/example/ludarc/ludarc/engine/Variable"), (0, u "owner"), (0, u "Lcom/example/ludarc/ludarc/engine/Network$Builder;"), (0, .fieldref 8 14), (0, .nameAndType 15 16), (0, u "index"), (0, u "I"), (0, .fieldref 8 18), (0, .nameAndType 19 20), (0, u "name"), (0, u "Ljava/lang/String;"), (0, .fieldref 8 22), (0, .nameAndType 23 24), (0, u "values"), (0, u "[I"), (0, .fieldref 8 26), (0, .nameAndType 27 28), (0, u "probabilities"), (0, u "[D"), (11, u "(Lcom/example/ludarc/ludarc/engine/Network$Builder;ILjava/lang/String;[I[D)V"), (10, u "()I"), (0, u "size")] 13

def k12c0 : Code := { maxStack := 2, maxLocals := 6, code := prog_18_method_1_code, exceptionTable := #[], attributes := #[] }
def k12m0 : Method := { name := "<init>", desc := "(Lcom/example/ludarc/ludarc/engine/Network$Builder;ILjava/lang/String;[I[D)V", sig := { parameters := [(.object "com/example/ludarc/ludarc/engine/Network$Builder"), .int, (.object "java/lang/String"), (.array .int), (.array .double)], returnType := none }, accessFlags := 0, code := some k12c0 }
def k12c1 : Code := { maxStack := 1, maxLocals := 1, code := prog_18_method_8_code, exceptionTable := #[], attributes := #[] }
def k12m1 : Method := { name := "size", desc := "()I", sig := { parameters := [], returnType := some .int }, accessFlags := 0, code := some k12c1 }
/-- com/example/ludarc/ludarc/engine/Variable -/
def k12 : Class := { plain "com/example/ludarc/ludarc/engine/Variable" (some 0) with
  accessFlags := 49
  interfaces := #[]
  cf := some (fileOf pool12 8 #[] #[{ accessFlags := 0, nameIndex := 5, descriptorIndex := 40, attributes := #[] }, { accessFlags := 0, nameIndex := 52, descriptorIndex := 51, attributes := #[] }] 49 2 #[] #[{ accessFlags := 18, nameIndex := 11, descriptorIndex := 12, attributes := #[] }, { accessFlags := 18, nameIndex := 15, descriptorIndex := 16, attributes := #[] }, { accessFlags := 18, nameIndex := 19, descriptorIndex := 20, attributes := #[] }, { accessFlags := 18, nameIndex := 23, descriptorIndex := 24, attributes := #[] }, { accessFlags := 18, nameIndex := 27, descriptorIndex := 28, attributes := #[] }])
  fields := #[{ name := "owner", type := (.object "com/example/ludarc/ludarc/engine/Network$Builder"), accessFlags := 18, slot := 0, constantValue := 0 }, { name := "index", type := .int, accessFlags := 18, slot := 1, constantValue := 0 }, { name := "name", type := (.object "java/lang/String"), accessFlags := 18, slot := 2, constantValue := 0 }, { name := "values", type := (.array .int), accessFlags := 18, slot := 3, constantValue := 0 }, { name := "probabilities", type := (.array .double), accessFlags := 18, slot := 4, constantValue := 0 }]
  methods := #[k12m0, k12m1]
  instanceTypes := #[(.object "com/example/ludarc/ludarc/engine/Network$Builder"), .int, (.object "java/lang/String"), (.array .int), (.array .double)]
  staticTypes := #[]
  resolved := Array.replicate 66 none
  statics := none }

def pool13 : Array CpInfo := pool [(1, .class_ 2), (0, u "java/lang/Comparable"), (0, .class_ 4), (0, u "java/lang/Object")] 7

/-- java/lang/Comparable -/
def k13 : Class := { plain "java/lang/Comparable" (some 0) with
  accessFlags := 1537
  interfaces := #[]
  cf := some (fileOf pool13 1 #[] #[] 1537 3 #[] #[])
  fields := #[]
  methods := #[]
  instanceTypes := #[]
  staticTypes := #[]
  resolved := Array.replicate 12 none
  statics := none }

def pool14 : Array CpInfo := pool [(2, .class_ 4), (1, u "java/lang/CharSequence"), (42, .class_ 48), (0, u "java/lang/CharSequence$1CodePointIterator"), (10, .class_ 60), (0, u "java/lang/CharSequence$1CharIterator"), (5, .class_ 67), (0, u "java/lang/Object")] 63

/-- java/lang/CharSequence -/
def k14 : Class := { plain "java/lang/CharSequence" (some 0) with
  accessFlags := 1537
  interfaces := #[]
  cf := some (fileOf pool14 2 #[.nestMembers #[47, 59]] #[] 1537 66 #[] #[])
  fields := #[]
  methods := #[]
  instanceTypes := #[]
  staticTypes := #[]
  resolved := Array.replicate 131 none
  statics := none }

def pool15 : Array CpInfo := pool [(1, .class_ 2), (0, u "java/lang/constant/Constable"), (0, .class_ 4), (0, u "java/lang/Object")] 6

/-- java/lang/constant/Constable -/
def k15 : Class := { plain "java/lang/constant/Constable" (some 0) with
  accessFlags := 1537
  interfaces := #[]
  cf := some (fileOf pool15 1 #[] #[] 1537 3 #[] #[])
  fields := #[]
  methods := #[]
  instanceTypes := #[]
  staticTypes := #[]
  resolved := Array.replicate 11 none
  statics := none }

def pool16 : Array CpInfo := pool [(1, .class_ 2), (0, u "java/lang/constant/ConstantDesc"), (0, .class_ 4), (0, u "java/lang/Object")] 32

/-- java/lang/constant/ConstantDesc -/
def k16 : Class := { plain "java/lang/constant/ConstantDesc" (some 0) with
  accessFlags := 1537
  interfaces := #[]
  cf := some (fileOf pool16 1 #[] #[] 1537 3 #[] #[])
  fields := #[]
  methods := #[]
  instanceTypes := #[]
  staticTypes := #[]
  resolved := Array.replicate 37 none
  statics := none }

def pool17 : Array CpInfo := pool [(2, .class_ 4), (1, u "java/lang/Object"), (0, u "<init>"), (0, u "()V"), (3, .class_ 12), (1, u "java/lang/String"), (0, u "value"), (0, u "[B"), (2, u "coder"), (0, u "B"), (2, u "hash"), (0, u "I"), (2, u "hashIsZero"), (0, u "Z"), (13, u "COMPACT_STRINGS"), (534, .class_ 576), (0, u "java/lang/CharSequence"), (22, u "CASE_INSENSITIVE_ORDER"), (0, u "Ljava/util/Comparator;"), (500, u "serialPersistentFields"), (0, u "[Ljava/io/ObjectStreamField;"), (0, .class_ 1104), (0, u "java/lang/String$CaseInsensitiveComparator"), (1, .class_ 1107), (0, u "java/io/Serializable"), (0, .class_ 1109), (0, u "java/lang/Comparable"), (0, .class_ 1111), (0, u "java/lang/constant/Constable"), (0, .class_ 1113), (0, u "java/lang/constant/ConstantDesc"), (2, u "serialVersionUID"), (0, u "J"), (3, u "REPL"), (0, u "C"), (2, u "LATIN1"), (1, u "UTF16")] 323

def k17m0 : Method := { name := "<init>", desc := "()V", sig := { parameters := [], returnType := none }, accessFlags := 1, code := none }
/-- java/lang/String -/
def k17 : Class := { plain "java/lang/String" (some 0) with
  accessFlags := 49
  interfaces := #[10, 13, 14, 15, 16]
  cf := some (fileOf pool17 10 #[.nestMembers #[1103]] #[{ accessFlags := 1, nameIndex := 5, descriptorIndex := 6, attributes := #[] }] 49 2 #[1106, 1108, 575, 1110, 1112] #[{ accessFlags := 18, nameIndex := 13, descriptorIndex := 14, attributes := #[] }, { accessFlags := 18, nameIndex := 17, descriptorIndex := 18, attributes := #[] }, { accessFlags := 2, nameIndex := 21, descriptorIndex := 22, attributes := #[] }, { accessFlags := 2, nameIndex := 25, descriptorIndex := 26, attributes := #[] }, { accessFlags := 26, nameIndex := 1116, descriptorIndex := 1117, attributes := #[] }, { accessFlags := 24, nameIndex := 40, descriptorIndex := 26, attributes := #[] }, { accessFlags := 26, nameIndex := 1101, descriptorIndex := 1102, attributes := #[] }, { accessFlags := 26, nameIndex := 1121, descriptorIndex := 1122, attributes := #[] }, { accessFlags := 25, nameIndex := 599, descriptorIndex := 600, attributes := #[] }, { accessFlags := 24, nameIndex := 1125, descriptorIndex := 18, attributes := #[] }, { accessFlags := 24, nameIndex := 1127, descriptorIndex := 18, attributes := #[] }])
  fields := #[{ name := "value", type := (.array .byte), accessFlags := 18, slot := 0, constantValue := 0 }, { name := "coder", type := .byte, accessFlags := 18, slot := 1, constantValue := 0 }, { name := "hash", type := .int, accessFlags := 2, slot := 2, constantValue := 0 }, { name := "hashIsZero", type := .boolean, accessFlags := 2, slot := 3, constantValue := 0 }, { name := "serialVersionUID", type := .long, accessFlags := 26, slot := 0, constantValue := 0 }, { name := "COMPACT_STRINGS", type := .boolean, accessFlags := 24, slot := 1, constantValue := 0 }, { name := "serialPersistentFields", type := (.array (.object "java/io/ObjectStreamField")), accessFlags := 26, slot := 2, constantValue := 0 }, { name := "REPL", type := .char, accessFlags := 26, slot := 3, constantValue := 0 }, { name := "CASE_INSENSITIVE_ORDER", type := (.object "java/util/Comparator"), accessFlags := 25, slot := 4, constantValue := 0 }, { name := "LATIN1", type := .byte, accessFlags := 24, slot := 5, constantValue := 0 }, { name := "UTF16", type := .byte, accessFlags := 24, slot := 6, constantValue := 0 }]
  methods := #[k17m0]
  instanceTypes := #[(.array .byte), .byte, .int, .boolean]
  staticTypes := #[.long, .boolean, (.array (.object "java/io/ObjectStreamField")), .char, (.object "java/util/Comparator"), .byte, .byte]
  resolved := Array.replicate 1451 none
  statics := none }

def pool18 : Array CpInfo := pool [(1, .class_ 2), (0, u "java/lang/Math"), (1, .class_ 6), (1, u "java/lang/Object"), (0, u "<init>"), (0, u "()V"), (89, .class_ 100), (1, u "java/lang/Math$RandomNumberGeneratorHolder"), (71, u "negativeZeroFloatBits"), (0, u "J"), (2, u "negativeZeroDoubleBits"), (21, u "max"), (46, u "$assertionsDisabled"), (0, u "Z"), (88, u "(II)I"), (2, u "twoToTheDoubleScaleDown"), (0, u "D"), (4, u "twoToTheDoubleScaleUp"), (9, u "E"), (3, u "PI"), (2, u "TAU"), (2, u "DEGREES_TO_RADIANS"), (0, u "RADIANS_TO_DEGREES")] 94

def k18m0 : Method := { name := "<init>", desc := "()V", sig := { parameters := [], returnType := none }, accessFlags := 2, code := none }
def k18c1 : Code := { maxStack := 2, maxLocals := 2, code := jdk_29_method_65_code, exceptionTable := #[], attributes := #[] }
def k18m1 : Method := { name := "max", desc := "(II)I", sig := { parameters := [.int, .int], returnType := some .int }, accessFlags := 9, code := some k18c1 }
/-- java/lang/Math -/
def k18 : Class := { plain "java/lang/Math" (some 0) with
  accessFlags := 49
  interfaces := #[]
  cf := some (fileOf pool18 1 #[.nestMembers #[98]] #[{ accessFlags := 2, nameIndex := 7, descriptorIndex := 8, attributes := #[] }, { accessFlags := 9, nameIndex := 198, descriptorIndex := 335, attributes := #[] }] 49 4 #[] #[{ accessFlags := 25, nameIndex := 354, descriptorIndex := 339, attributes := #[] }, { accessFlags := 25, nameIndex := 358, descriptorIndex := 339, attributes := #[] }, { accessFlags := 25, nameIndex := 361, descriptorIndex := 339, attributes := #[] }, { accessFlags := 26, nameIndex := 364, descriptorIndex := 339, attributes := #[] }, { accessFlags := 26, nameIndex := 365, descriptorIndex := 339, attributes := #[] }, { accessFlags := 26, nameIndex := 172, descriptorIndex := 173, attributes := #[] }, { accessFlags := 26, nameIndex := 176, descriptorIndex := 173, attributes := #[] }, { accessFlags := 8, nameIndex := 344, descriptorIndex := 339, attributes := #[] }, { accessFlags := 8, nameIndex := 338, descriptorIndex := 339, attributes := #[] }, { accessFlags := 4120, nameIndex := 245, descriptorIndex := 246, attributes := #[] }])
  fields := #[{ name := "E", type := .double, accessFlags := 25, slot := 0, constantValue := 0 }, { name := "PI", type := .double, accessFlags := 25, slot := 1, constantValue := 0 }, { name := "TAU", type := .double, accessFlags := 25, slot := 2, constantValue := 0 }, { name := "DEGREES_TO_RADIANS", type := .double, accessFlags := 26, slot := 3, constantValue := 0 }, { name := "RADIANS_TO_DEGREES", type := .double, accessFlags := 26, slot := 4, constantValue := 0 }, { name := "negativeZeroFloatBits", type := .long, accessFlags := 26, slot := 5, constantValue := 0 }, { name := "negativeZeroDoubleBits", type := .long, accessFlags := 26, slot := 6, constantValue := 0 }, { name := "twoToTheDoubleScaleUp", type := .double, accessFlags := 8, slot := 7, constantValue := 0 }, { name := "twoToTheDoubleScaleDown", type := .double, accessFlags := 8, slot := 8, constantValue := 0 }, { name := "$assertionsDisabled", type := .boolean, accessFlags := 4120, slot := 9, constantValue := 0 }]
  methods := #[k18m0, k18m1]
  instanceTypes := #[]
  staticTypes := #[.double, .double, .double, .double, .double, .long, .long, .double, .double, .boolean]
  resolved := Array.replicate 460 none
  statics := none }

def pool19 : Array CpInfo := pool [(1, .methodref 2 3), (0, .class_ 4), (0, .nameAndType 5 6), (0, u "java/lang/Object"), (0, u "<init>"), (0, u "()V"), (0, .fieldref 8 9), (0, .class_ 10), (0, .nameAndType 11 12), (0, u "com/example/ludarc/ludarc/engine/Domains"), (0, u "round"), (0, u "I"), (0, .interfaceMethodref 14 15), (0, .class_ 16), (0, .nameAndType 17 18), (0, u "java/util/List"), (0, u "size"), (0, u "()I"), (0, .class_ 20), (0, u "[I"), (0, .fieldref 8 22), (0, .nameAndType 23 24), (0, u "members"), (0, u "[[I"), (0, .fieldref 8 26), (0, .nameAndType 27 24), (0, u "positions"), (0, .fieldref 8 29), (0, .nameAndType 30 20), (0, u "sizes"), (0, .fieldref 8 32), (0, .nameAndType 33 24), (0, u "marks"), (0, .interfaceMethodref 14 35), (0, .nameAndType 36 37), (0, u "get"), (0, u "(I)Ljava/lang/Object;"), (0, .class_ 39), (0, u "com/example/ludarc/ludarc/engine/Variable"), (0, .methodref 38 15), (10, .methodref 8 52), (0, .nameAndType 53 54), (0, u "swap"), (0, u "(III)V"), (17, u "(Ljava/util/List;)V"), (9, u "contains"), (0, u "(II)Z"), (2, u "remove"), (0, u "(II)V"), (0, u "assign")] 9

def k19c0 : Code := { maxStack := 3, maxLocals := 5, code := prog_5_method_1_code, exceptionTable := #[], attributes := #[] }
def k19m0 : Method := { name := "<init>", desc := "(Ljava/util/List;)V", sig := { parameters := [(.object "java/util/List")], returnType := none }, accessFlags := 0, code := some k19c0 }
def k19c1 : Code := { maxStack := 3, maxLocals := 3, code := prog_5_method_5_code, exceptionTable := #[], attributes := #[] }
def k19m1 : Method := { name := "contains", desc := "(II)Z", sig := { parameters := [.int, .int], returnType := some .boolean }, accessFlags := 0, code := some k19c1 }
def k19c2 : Code := { maxStack := 4, maxLocals := 4, code := prog_5_method_7_code, exceptionTable := #[], attributes := #[] }
def k19m2 : Method := { name := "remove", desc := "(II)V", sig := { parameters := [.int, .int], returnType := none }, accessFlags := 0, code := some k19c2 }
def k19c3 : Code := { maxStack := 4, maxLocals := 3, code := prog_5_method_8_code, exceptionTable := #[], attributes := #[] }
def k19m3 : Method := { name := "assign", desc := "(II)V", sig := { parameters := [.int, .int], returnType := none }, accessFlags := 0, code := some k19c3 }
def k19c4 : Code := { maxStack := 4, maxLocals := 6, code := prog_5_method_14_code, exceptionTable := #[], attributes := #[] }
def k19m4 : Method := { name := "swap", desc := "(III)V", sig := { parameters := [.int, .int, .int], returnType := none }, accessFlags := 2, code := some k19c4 }
/-- com/example/ludarc/ludarc/engine/Domains -/
def k19 : Class := { plain "com/example/ludarc/ludarc/engine/Domains" (some 0) with
  accessFlags := 48
  interfaces := #[]
  cf := some (fileOf pool19 8 #[] #[{ accessFlags := 0, nameIndex := 5, descriptorIndex := 72, attributes := #[] }, { accessFlags := 0, nameIndex := 82, descriptorIndex := 83, attributes := #[] }, { accessFlags := 0, nameIndex := 86, descriptorIndex := 87, attributes := #[] }, { accessFlags := 0, nameIndex := 88, descriptorIndex := 87, attributes := #[] }, { accessFlags := 2, nameIndex := 53, descriptorIndex := 54, attributes := #[] }] 48 2 #[] #[{ accessFlags := 18, nameIndex := 23, descriptorIndex := 24, attributes := #[] }, { accessFlags := 18, nameIndex := 27, descriptorIndex := 24, attributes := #[] }, { accessFlags := 18, nameIndex := 30, descriptorIndex := 20, attributes := #[] }, { accessFlags := 18, nameIndex := 33, descriptorIndex := 24, attributes := #[] }, { accessFlags := 2, nameIndex := 11, descriptorIndex := 12, attributes := #[] }])
  fields := #[{ name := "members", type := (.array (.array .int)), accessFlags := 18, slot := 0, constantValue := 0 }, { name := "positions", type := (.array (.array .int)), accessFlags := 18, slot := 1, constantValue := 0 }, { name := "sizes", type := (.array .int), accessFlags := 18, slot := 2, constantValue := 0 }, { name := "marks", type := (.array (.array .int)), accessFlags := 18, slot := 3, constantValue := 0 }, { name := "round", type := .int, accessFlags := 2, slot := 4, constantValue := 0 }]
  methods := #[k19m0, k19m1, k19m2, k19m3, k19m4]
  instanceTypes := #[(.array (.array .int)), (.array (.array .int)), (.array .int), (.array (.array .int)), .int]
  staticTypes := #[]
  resolved := Array.replicate 98 none
  statics := none }

def pool20 : Array CpInfo := pool [(2, .class_ 4), (1, u "java/lang/Object"), (0, u "<init>"), (0, u "()V"), (35, .class_ 44), (1, u "java/util/Objects"), (60, .methodref 106 107), (0, .class_ 108), (0, .nameAndType 109 110), (0, u "jdk/internal/util/Preconditions"), (0, u "checkIndex"), (0, u "(IILjava/util/function/BiFunction;)I"), (60, u "(II)I")] 12

def k20m0 : Method := { name := "<init>", desc := "()V", sig := { parameters := [], returnType := none }, accessFlags := 2, code := none }
def k20c1 : Code := { maxStack := 3, maxLocals := 2, code := jdk_31_method_17_code, exceptionTable := #[], attributes := #[] }
def k20m1 : Method := { name := "checkIndex", desc := "(II)I", sig := { parameters := [.int, .int], returnType := some .int }, accessFlags := 9, code := some k20c1 }
/-- java/util/Objects -/
def k20 : Class := { plain "java/util/Objects" (some 0) with
  accessFlags := 49
  interfaces := #[]
  cf := some (fileOf pool20 42 #[] #[{ accessFlags := 2, nameIndex := 5, descriptorIndex := 6, attributes := #[] }, { accessFlags := 9, nameIndex := 109, descriptorIndex := 171, attributes := #[] }] 49 2 #[] #[])
  fields := #[]
  methods := #[k20m0, k20m1]
  instanceTypes := #[]
  staticTypes := #[]
  resolved := Array.replicate 184 none
  statics := none }

def pool21 : Array CpInfo := pool [(2, .class_ 4), (1, u "java/lang/Object"), (0, u "<init>"), (0, u "()V"), (17, .class_ 26), (1, u "jdk/internal/util/Preconditions"), (6, u "checkIndex"), (21, .class_ 56), (0, u "jdk/internal/util/Preconditions$4"), (57, .class_ 115), (0, u "jdk/internal/util/Preconditions$1"), (7, u "SIOOBE_FORMATTER"), (0, u "Ljava/util/function/BiFunction;"), (0, .class_ 126), (0, u "jdk/internal/util/Preconditions$2"), (3, u "AIOOBE_FORMATTER"), (0, .class_ 132), (0, u "jdk/internal/util/Preconditions$3"), (3, u "IOOBE_FORMATTER"), (41, u "(IILjava/util/function/BiFunction;)I")] 15

def k21m0 : Method := { name := "<init>", desc := "()V", sig := { parameters := [], returnType := none }, accessFlags := 1, code := none }
def k21c1 : Code := { maxStack := 3, maxLocals := 3, code := jdk_41_method_11_code, exceptionTable := #[], attributes := #[] }
def k21m1 : Method := { name := "checkIndex", desc := "(IILjava/util/function/BiFunction;)I", sig := { parameters := [.int, .int, (.object "java/util/function/BiFunction")], returnType := some .int }, accessFlags := 9, code := some k21c1 }
/-- jdk/internal/util/Preconditions -/
def k21 : Class := { plain "jdk/internal/util/Preconditions" (some 0) with
  accessFlags := 33
  interfaces := #[]
  cf := some (fileOf pool21 24 #[.nestMembers #[55, 131, 125, 114]] #[{ accessFlags := 1, nameIndex := 5, descriptorIndex := 6, attributes := #[] }, { accessFlags := 9, nameIndex := 33, descriptorIndex := 178, attributes := #[] }] 33 2 #[] #[{ accessFlags := 25, nameIndex := 123, descriptorIndex := 124, attributes := #[] }, { accessFlags := 25, nameIndex := 130, descriptorIndex := 124, attributes := #[] }, { accessFlags := 25, nameIndex := 136, descriptorIndex := 124, attributes := #[] }])
  fields := #[{ name := "SIOOBE_FORMATTER", type := (.object "java/util/function/BiFunction"), accessFlags := 25, slot := 0, constantValue := 0 }, { name := "AIOOBE_FORMATTER", type := (.object "java/util/function/BiFunction"), accessFlags := 25, slot := 1, constantValue := 0 }, { name := "IOOBE_FORMATTER", type := (.object "java/util/function/BiFunction"), accessFlags := 25, slot := 2, constantValue := 0 }]
  methods := #[k21m0, k21m1]
  instanceTypes := #[]
  staticTypes := #[(.object "java/util/function/BiFunction"), (.object "java/util/function/BiFunction"), (.object "java/util/function/BiFunction")]
  resolved := Array.replicate 194 none
  statics := none }

/-- the primitive boolean -/
def k22 : Class := { plain "boolean" none with kind := .primitive 'Z', accessFlags := 0x411 }
/-- [Z -/
def k23 : Class := { plain "[Z" (some 0) with kind := .array 22 .boolean, interfaces := #[9, 10], accessFlags := 1041 }

/-- the primitive byte -/
def k24 : Class := { plain "byte" none with kind := .primitive 'B', accessFlags := 0x411 }
/-- [B -/
def k25 : Class := { plain "[B" (some 0) with kind := .array 24 .byte, interfaces := #[9, 10], accessFlags := 1041 }

/-- the primitive int -/
def k26 : Class := { plain "int" none with kind := .primitive 'I', accessFlags := 0x411 }
/-- [I -/
def k27 : Class := { plain "[I" (some 0) with kind := .array 26 .int, interfaces := #[9, 10], accessFlags := 1041 }

/-- [Ljava/lang/Object; -/
def k28 : Class := { plain "[Ljava/lang/Object;" (some 0) with kind := .array 0 (.object "java/lang/Object"), interfaces := #[9, 10], accessFlags := 1041 }

/-- [[I -/
def k29 : Class := { plain "[[I" (some 0) with kind := .array 27 (.array .int), interfaces := #[9, 10], accessFlags := 1041 }
def heap : Heap := #[{ cls := 11, slots := #[.long 0, .int 0, .ref 1, .ref 2], vm := .statics 11 },
  { cls := 28, slots := #[], vm := .none },
  { cls := 28, slots := #[], vm := .none }]
def classes : Array Class := #[k0, k1, k2, k3, k4, k5, k6, k7, k8, k9, k10, k11, k12, k13, k14, k15, k16, k17, k18, k19, k20, k21, k22, k23, k24, k25, k26, k27, k28, k29]
def interned : List (Array UInt16 × Addr) := []
def slotsUsed : Nat := 4
def theMethod : MethodId := ⟨1, 1⟩
def args0 : Array Value := #[.int 3, .int 4, .int 5]
def aboutOver (below : List Frame) : State where
  vm := { classes := classes, interned := interned.toArray }
  heap := heap
  slotsUsed := slotsUsed
  threads := #[{ frames := .invoking theMethod args0 :: below }]
def below0 : List Frame := [.native { method := ⟨0, 0⟩, args := #[] }]
def about1 : State := aboutOver below0
def p0 : Program := .bare "" "" ""
def e0 : Env := launch0.env 0 0 0
theorem w_frames : about1.frames = Frame.invoking theMethod args0 :: below0 := rfl
set_option maxRecDepth 65536 in
theorem w_args : argsFit about1.vm theMethod args0 = true := by decide +kernel
set_option maxRecDepth 65536 in
theorem w_heap : heapFits about1 = true := by decide +kernel
set_option maxRecDepth 65536 in
theorem w_runnable : about1.curStatus? = some .runnable := by decide +kernel
set_option maxRecDepth 65536 in
theorem w_alone : about1.alone = true := by decide +kernel
set_option maxRecDepth 65536 in
theorem w_named : about1.methodNamed? x = some theMethod := by decide +kernel
set_option maxRecDepth 65536 in
theorem w_hears : about1.hears theMethod below0 = true := by decide +kernel
set_option maxRecDepth 65536 in
theorem w_ripe : about1.ripe theMethod args0 below0 = true := by decide +kernel
theorem w_running : about1.status = .running := rfl
set_option maxRecDepth 65536 in
theorem w_room : about1.hasRoom e0.platform room_1 = true :=
  launch0.hasRoom_least _ room_1 (by decide +kernel) (by decide +kernel) (by decide +kernel) (by decide +kernel) (by decide +kernel) (by decide +kernel)
theorem allAtoms_all (ts : List Jvm.Cond) (a : Array Jvm.Value) (st : Jvm.State) : (allAtoms ts).before a st = ts.all (fun c => c.before a st) := by
  induction ts with
  | nil => rfl
  | cons c t ih =>
    show (Jvm.Cond.and c (allAtoms t)).before a st = _
    rw [Jvm.Cond.before_and, ih, List.all_cons]
def words1 : List Jvm.Cond := Jvm.Cond.code x code maxLocals ret :: tables_1
/-- a 'code' word, met by the world's own term for the bytes: nothing is compared byte by byte -/
theorem code_word {y : MethodName} {bytes : ByteArray} {mx : Nat} {rt : Option FieldType} {a : Array Value} {s : State} {m : MethodId} {meth : Method} {c : Code} (h1 : s.methodNamed? y = some m) (h2 : s.vm.method? m = some meth) (h3 : meth.code = some c) (h4 : c.code = bytes)
    (h5 : (c.maxLocals == mx && c.exceptionTable.isEmpty && decide (c.maxStack ≤ mostOperands) && decide (meth.sig.returnType = rt) && !meth.locks && decide (parseMethodDescriptor y.desc = some meth.sig)) = true) : (Jvm.Cond.code y bytes mx rt).before a s = true := by
  simp only [Bool.and_eq_true, beq_iff_eq, Bool.not_eq_true', decide_eq_true_eq] at h5
  obtain ⟨⟨⟨⟨⟨g1, g2⟩, g3⟩, g4⟩, g5⟩, g6⟩ := h5
  simp [Cond.before, Cond.holds, Cond.value, h1, h2, h3, h4, g1, g2, g3, g4, g5, g6]
def isCode : Jvm.Cond → Bool
  | .code _ _ _ _ => true
  | _ => false
theorem all_split {L : List Jvm.Cond} {P : Jvm.Cond → Bool} (h1 : L.all (fun c => isCode c || P c) = true) (h2 : ∀ c ∈ L.filter isCode, P c = true) : L.all P = true := by
  refine List.all_eq_true.mpr fun c hc => ?_
  have h := List.all_eq_true.mp h1 c hc
  rcases Bool.eq_false_or_eq_true (isCode c) with hi | hi
  · exact h2 c (List.mem_filter.mpr ⟨hc, hi⟩)
  · simpa [hi] using h
set_option maxRecDepth 65536 in
theorem w_c0 : (Jvm.Cond.code x code maxLocals ret).before args0 about1 = true := code_word (m := ⟨1, 1⟩) (meth := k1m1) (c := k1c1) (by decide +kernel) rfl rfl rfl (by decide +kernel)
set_option maxRecDepth 65536 in
theorem w_c1 : (Jvm.Cond.code ({ cls := "java/util/ArrayList", name := "<init>", desc := "()V" } : Jvm.MethodName) jdk_38_method_2_code (1 : Nat) (Option.none : Option Jvm.ClassFile.FieldType)).before args0 about1 = true := code_word (m := ⟨11, 0⟩) (meth := k11m0) (c := k11c0) (by decide +kernel) rfl rfl rfl (by decide +kernel)
set_option maxRecDepth 65536 in
theorem w_c2 : (Jvm.Cond.code ({ cls := "java/util/AbstractList", name := "<init>", desc := "()V" } : Jvm.MethodName) jdk_39_method_1_code (1 : Nat) (Option.none : Option Jvm.ClassFile.FieldType)).before args0 about1 = true := code_word (m := ⟨7, 0⟩) (meth := k7m0) (c := k7c0) (by decide +kernel) rfl rfl rfl (by decide +kernel)
set_option maxRecDepth 65536 in
theorem w_c3 : (Jvm.Cond.code ({ cls := "java/util/AbstractCollection", name := "<init>", desc := "()V" } : Jvm.MethodName) jdk_22_method_1_code (1 : Nat) (Option.none : Option Jvm.ClassFile.FieldType)).before args0 about1 = true := code_word (m := ⟨4, 0⟩) (meth := k4m0) (c := k4c0) (by decide +kernel) rfl rfl rfl (by decide +kernel)
set_option maxRecDepth 65536 in
theorem w_c4 : (Jvm.Cond.code ({ cls := "java/lang/Object", name := "<init>", desc := "()V" } : Jvm.MethodName) object_method_1_code (1 : Nat) (Option.none : Option Jvm.ClassFile.FieldType)).before args0 about1 = true := code_word (m := ⟨0, 0⟩) (meth := k0m0) (c := k0c0) (by decide +kernel) rfl rfl rfl (by decide +kernel)
set_option maxRecDepth 65536 in
theorem w_c5 : (Jvm.Cond.code ({ cls := "com/example/ludarc/ludarc/engine/Variable", name := "<init>", desc := "(Lcom/example/ludarc/ludarc/engine/Network$Builder;ILjava/lang/String;[I[D)V" } : Jvm.MethodName) prog_18_method_1_code (6 : Nat) (Option.none : Option Jvm.ClassFile.FieldType)).before args0 about1 = true := code_word (m := ⟨12, 0⟩) (meth := k12m0) (c := k12c0) (by decide +kernel) rfl rfl rfl (by decide +kernel)
set_option maxRecDepth 65536 in
theorem w_c6 : (Jvm.Cond.code ({ cls := "java/util/ArrayList", name := "add", desc := "(Ljava/lang/Object;)Z" } : Jvm.MethodName) jdk_38_method_25_code (2 : Nat) (Option.some Jvm.ClassFile.FieldType.boolean)).before args0 about1 = true := code_word (m := ⟨11, 7⟩) (meth := k11m7) (c := k11c7) (by decide +kernel) rfl rfl rfl (by decide +kernel)
set_option maxRecDepth 65536 in
theorem w_c7 : (Jvm.Cond.code ({ cls := "java/util/ArrayList", name := "add", desc := "(Ljava/lang/Object;[Ljava/lang/Object;I)V" } : Jvm.MethodName) jdk_38_method_24_code (4 : Nat) (Option.none : Option Jvm.ClassFile.FieldType)).before args0 about1 = true := code_word (m := ⟨11, 6⟩) (meth := k11m6) (c := k11c6) (by decide +kernel) rfl rfl rfl (by decide +kernel)
set_option maxRecDepth 65536 in
theorem w_c8 : (Jvm.Cond.code ({ cls := "java/util/ArrayList", name := "grow", desc := "()[Ljava/lang/Object;" } : Jvm.MethodName) jdk_38_method_7_code (1 : Nat) (Option.some (Jvm.ClassFile.FieldType.array (Jvm.ClassFile.FieldType.object "java/lang/Object")))).before args0 about1 = true := code_word (m := ⟨11, 2⟩) (meth := k11m2) (c := k11c2) (by decide +kernel) rfl rfl rfl (by decide +kernel)
set_option maxRecDepth 65536 in
theorem w_c9 : (Jvm.Cond.code ({ cls := "java/util/ArrayList", name := "grow", desc := "(I)[Ljava/lang/Object;" } : Jvm.MethodName) jdk_38_method_6_code (4 : Nat) (Option.some (Jvm.ClassFile.FieldType.array (Jvm.ClassFile.FieldType.object "java/lang/Object")))).before args0 about1 = true := code_word (m := ⟨11, 1⟩) (meth := k11m1) (c := k11c1) (by decide +kernel) rfl rfl rfl (by decide +kernel)
set_option maxRecDepth 65536 in
theorem w_c10 : (Jvm.Cond.code ({ cls := "java/lang/Math", name := "max", desc := "(II)I" } : Jvm.MethodName) jdk_29_method_65_code (2 : Nat) (Option.some Jvm.ClassFile.FieldType.int)).before args0 about1 = true := code_word (m := ⟨18, 1⟩) (meth := k18m1) (c := k18c1) (by decide +kernel) rfl rfl rfl (by decide +kernel)
set_option maxRecDepth 65536 in
theorem w_c11 : (Jvm.Cond.code ({ cls := "com/example/ludarc/ludarc/engine/Domains", name := "<init>", desc := "(Ljava/util/List;)V" } : Jvm.MethodName) prog_5_method_1_code (5 : Nat) (Option.none : Option Jvm.ClassFile.FieldType)).before args0 about1 = true := code_word (m := ⟨19, 0⟩) (meth := k19m0) (c := k19c0) (by decide +kernel) rfl rfl rfl (by decide +kernel)
set_option maxRecDepth 65536 in
theorem w_c12 : (Jvm.Cond.code ({ cls := "java/util/ArrayList", name := "size", desc := "()I" } : Jvm.MethodName) jdk_38_method_8_code (1 : Nat) (Option.some Jvm.ClassFile.FieldType.int)).before args0 about1 = true := code_word (m := ⟨11, 3⟩) (meth := k11m3) (c := k11c3) (by decide +kernel) rfl rfl rfl (by decide +kernel)
set_option maxRecDepth 65536 in
theorem w_c13 : (Jvm.Cond.code ({ cls := "java/util/ArrayList", name := "get", desc := "(I)Ljava/lang/Object;" } : Jvm.MethodName) jdk_38_method_20_code (2 : Nat) (Option.some (Jvm.ClassFile.FieldType.object "java/lang/Object"))).before args0 about1 = true := code_word (m := ⟨11, 5⟩) (meth := k11m5) (c := k11c5) (by decide +kernel) rfl rfl rfl (by decide +kernel)
set_option maxRecDepth 65536 in
theorem w_c14 : (Jvm.Cond.code ({ cls := "java/util/Objects", name := "checkIndex", desc := "(II)I" } : Jvm.MethodName) jdk_31_method_17_code (2 : Nat) (Option.some Jvm.ClassFile.FieldType.int)).before args0 about1 = true := code_word (m := ⟨20, 1⟩) (meth := k20m1) (c := k20c1) (by decide +kernel) rfl rfl rfl (by decide +kernel)
set_option maxRecDepth 65536 in
theorem w_c15 : (Jvm.Cond.code ({ cls := "jdk/internal/util/Preconditions", name := "checkIndex", desc := "(IILjava/util/function/BiFunction;)I" } : Jvm.MethodName) jdk_41_method_11_code (3 : Nat) (Option.some Jvm.ClassFile.FieldType.int)).before args0 about1 = true := code_word (m := ⟨21, 1⟩) (meth := k21m1) (c := k21c1) (by decide +kernel) rfl rfl rfl (by decide +kernel)
set_option maxRecDepth 65536 in
theorem w_c16 : (Jvm.Cond.code ({ cls := "java/util/ArrayList", name := "elementData", desc := "(I)Ljava/lang/Object;" } : Jvm.MethodName) jdk_38_method_18_code (2 : Nat) (Option.some (Jvm.ClassFile.FieldType.object "java/lang/Object"))).before args0 about1 = true := code_word (m := ⟨11, 4⟩) (meth := k11m4) (c := k11c4) (by decide +kernel) rfl rfl rfl (by decide +kernel)
set_option maxRecDepth 65536 in
theorem w_c17 : (Jvm.Cond.code ({ cls := "com/example/ludarc/ludarc/engine/Variable", name := "size", desc := "()I" } : Jvm.MethodName) prog_18_method_8_code (1 : Nat) (Option.some Jvm.ClassFile.FieldType.int)).before args0 about1 = true := code_word (m := ⟨12, 1⟩) (meth := k12m1) (c := k12c1) (by decide +kernel) rfl rfl rfl (by decide +kernel)
set_option maxRecDepth 65536 in
theorem w_c18 : (Jvm.Cond.code ({ cls := "com/example/ludarc/ludarc/engine/DomainsContainsPinLaw", name := "step", desc := "(Lcom/example/ludarc/ludarc/engine/Domains;[Z[ZI)V" } : Jvm.MethodName) method_3_code (7 : Nat) (Option.none : Option Jvm.ClassFile.FieldType)).before args0 about1 = true := code_word (m := ⟨1, 2⟩) (meth := k1m2) (c := k1c2) (by decide +kernel) rfl rfl rfl (by decide +kernel)
set_option maxRecDepth 65536 in
theorem w_c19 : (Jvm.Cond.code ({ cls := "com/example/ludarc/ludarc/engine/Domains", name := "remove", desc := "(II)V" } : Jvm.MethodName) prog_5_method_7_code (4 : Nat) (Option.none : Option Jvm.ClassFile.FieldType)).before args0 about1 = true := code_word (m := ⟨19, 2⟩) (meth := k19m2) (c := k19c2) (by decide +kernel) rfl rfl rfl (by decide +kernel)
set_option maxRecDepth 65536 in
theorem w_c20 : (Jvm.Cond.code ({ cls := "com/example/ludarc/ludarc/engine/Domains", name := "swap", desc := "(III)V" } : Jvm.MethodName) prog_5_method_14_code (6 : Nat) (Option.none : Option Jvm.ClassFile.FieldType)).before args0 about1 = true := code_word (m := ⟨19, 4⟩) (meth := k19m4) (c := k19c4) (by decide +kernel) rfl rfl rfl (by decide +kernel)
set_option maxRecDepth 65536 in
theorem w_c21 : (Jvm.Cond.code ({ cls := "com/example/ludarc/ludarc/engine/Domains", name := "contains", desc := "(II)Z" } : Jvm.MethodName) prog_5_method_5_code (3 : Nat) (Option.some Jvm.ClassFile.FieldType.boolean)).before args0 about1 = true := code_word (m := ⟨19, 1⟩) (meth := k19m1) (c := k19c1) (by decide +kernel) rfl rfl rfl (by decide +kernel)
set_option maxRecDepth 65536 in
theorem w_c22 : (Jvm.Cond.code ({ cls := "com/example/ludarc/ludarc/engine/Domains", name := "assign", desc := "(II)V" } : Jvm.MethodName) prog_5_method_8_code (3 : Nat) (Option.none : Option Jvm.ClassFile.FieldType)).before args0 about1 = true := code_word (m := ⟨19, 3⟩) (meth := k19m3) (c := k19c3) (by decide +kernel) rfl rfl rfl (by decide +kernel)
def codes1 : List Jvm.Cond := [Jvm.Cond.code x code maxLocals ret, Jvm.Cond.code ({ cls := "java/util/ArrayList", name := "<init>", desc := "()V" } : Jvm.MethodName) jdk_38_method_2_code (1 : Nat) (Option.none : Option Jvm.ClassFile.FieldType), Jvm.Cond.code ({ cls := "java/util/AbstractList", name := "<init>", desc := "()V" } : Jvm.MethodName) jdk_39_method_1_code (1 : Nat) (Option.none : Option Jvm.ClassFile.FieldType), Jvm.Cond.code ({ cls := "java/util/AbstractCollection", name := "<init>", desc := "()V" } : Jvm.MethodName) jdk_22_method_1_code (1 : Nat) (Option.none : Option Jvm.ClassFile.FieldType), Jvm.Cond.code ({ cls := "java/lang/Object", name := "<init>", desc := "()V" } : Jvm.MethodName) object_method_1_code (1 : Nat) (Option.none : Option Jvm.ClassFile.FieldType), Jvm.Cond.code ({ cls := "com/example/ludarc/ludarc/engine/Variable", name := "<init>", desc := "(Lcom/example/ludarc/ludarc/engine/Network$Builder;ILjava/lang/String;[I[D)V" } : Jvm.MethodName) prog_18_method_1_code (6 : Nat) (Option.none : Option Jvm.ClassFile.FieldType), Jvm.Cond.code ({ cls := "java/util/ArrayList", name := "add", desc := "(Ljava/lang/Object;)Z" } : Jvm.MethodName) jdk_38_method_25_code (2 : Nat) (Option.some Jvm.ClassFile.FieldType.boolean), Jvm.Cond.code ({ cls := "java/util/ArrayList", name := "add", desc := "(Ljava/lang/Object;[Ljava/lang/Object;I)V" } : Jvm.MethodName) jdk_38_method_24_code (4 : Nat) (Option.none : Option Jvm.ClassFile.FieldType), Jvm.Cond.code ({ cls := "java/util/ArrayList", name := "grow", desc := "()[Ljava/lang/Object;" } : Jvm.MethodName) jdk_38_method_7_code (1 : Nat) (Option.some (Jvm.ClassFile.FieldType.array (Jvm.ClassFile.FieldType.object "java/lang/Object"))), Jvm.Cond.code ({ cls := "java/util/ArrayList", name := "grow", desc := "(I)[Ljava/lang/Object;" } : Jvm.MethodName) jdk_38_method_6_code (4 : Nat) (Option.some (Jvm.ClassFile.FieldType.array (Jvm.ClassFile.FieldType.object "java/lang/Object"))), Jvm.Cond.code ({ cls := "java/lang/Math", name := "max", desc := "(II)I" } : Jvm.MethodName) jdk_29_method_65_code (2 : Nat) (Option.some Jvm.ClassFile.FieldType.int), Jvm.Cond.code ({ cls := "com/example/ludarc/ludarc/engine/Domains", name := "<init>", desc := "(Ljava/util/List;)V" } : Jvm.MethodName) prog_5_method_1_code (5 : Nat) (Option.none : Option Jvm.ClassFile.FieldType), Jvm.Cond.code ({ cls := "java/util/ArrayList", name := "size", desc := "()I" } : Jvm.MethodName) jdk_38_method_8_code (1 : Nat) (Option.some Jvm.ClassFile.FieldType.int), Jvm.Cond.code ({ cls := "java/util/ArrayList", name := "get", desc := "(I)Ljava/lang/Object;" } : Jvm.MethodName) jdk_38_method_20_code (2 : Nat) (Option.some (Jvm.ClassFile.FieldType.object "java/lang/Object")), Jvm.Cond.code ({ cls := "java/util/Objects", name := "checkIndex", desc := "(II)I" } : Jvm.MethodName) jdk_31_method_17_code (2 : Nat) (Option.some Jvm.ClassFile.FieldType.int), Jvm.Cond.code ({ cls := "jdk/internal/util/Preconditions", name := "checkIndex", desc := "(IILjava/util/function/BiFunction;)I" } : Jvm.MethodName) jdk_41_method_11_code (3 : Nat) (Option.some Jvm.ClassFile.FieldType.int), Jvm.Cond.code ({ cls := "java/util/ArrayList", name := "elementData", desc := "(I)Ljava/lang/Object;" } : Jvm.MethodName) jdk_38_method_18_code (2 : Nat) (Option.some (Jvm.ClassFile.FieldType.object "java/lang/Object")), Jvm.Cond.code ({ cls := "com/example/ludarc/ludarc/engine/Variable", name := "size", desc := "()I" } : Jvm.MethodName) prog_18_method_8_code (1 : Nat) (Option.some Jvm.ClassFile.FieldType.int), Jvm.Cond.code ({ cls := "com/example/ludarc/ludarc/engine/DomainsContainsPinLaw", name := "step", desc := "(Lcom/example/ludarc/ludarc/engine/Domains;[Z[ZI)V" } : Jvm.MethodName) method_3_code (7 : Nat) (Option.none : Option Jvm.ClassFile.FieldType), Jvm.Cond.code ({ cls := "com/example/ludarc/ludarc/engine/Domains", name := "remove", desc := "(II)V" } : Jvm.MethodName) prog_5_method_7_code (4 : Nat) (Option.none : Option Jvm.ClassFile.FieldType), Jvm.Cond.code ({ cls := "com/example/ludarc/ludarc/engine/Domains", name := "swap", desc := "(III)V" } : Jvm.MethodName) prog_5_method_14_code (6 : Nat) (Option.none : Option Jvm.ClassFile.FieldType), Jvm.Cond.code ({ cls := "com/example/ludarc/ludarc/engine/Domains", name := "contains", desc := "(II)Z" } : Jvm.MethodName) prog_5_method_5_code (3 : Nat) (Option.some Jvm.ClassFile.FieldType.boolean), Jvm.Cond.code ({ cls := "com/example/ludarc/ludarc/engine/Domains", name := "assign", desc := "(II)V" } : Jvm.MethodName) prog_5_method_8_code (3 : Nat) (Option.none : Option Jvm.ClassFile.FieldType)]
set_option maxRecDepth 65536 in
theorem codes_eq : words1.filter isCode = codes1 := rfl
theorem w_codes : ∀ c ∈ words1.filter isCode, c.before args0 about1 = true := by
  rw [codes_eq]
  intro c hc
  simp only [codes1, List.mem_cons, List.not_mem_nil, or_false] at hc
  rcases hc with rfl | rfl | rfl | rfl | rfl | rfl | rfl | rfl | rfl | rfl | rfl | rfl | rfl | rfl | rfl | rfl | rfl | rfl | rfl | rfl | rfl | rfl | rfl
  · exact w_c0
  · exact w_c1
  · exact w_c2
  · exact w_c3
  · exact w_c4
  · exact w_c5
  · exact w_c6
  · exact w_c7
  · exact w_c8
  · exact w_c9
  · exact w_c10
  · exact w_c11
  · exact w_c12
  · exact w_c13
  · exact w_c14
  · exact w_c15
  · exact w_c16
  · exact w_c17
  · exact w_c18
  · exact w_c19
  · exact w_c20
  · exact w_c21
  · exact w_c22
set_option maxRecDepth 65536 in
theorem w_t1 : (words1.take 24).all (fun c => isCode c || c.before args0 about1) = true := by decide +kernel
set_option maxRecDepth 65536 in
theorem w_t2 : ((words1.drop 24).take 24).all (fun c => isCode c || c.before args0 about1) = true := by decide +kernel
set_option maxRecDepth 65536 in
theorem w_t3 : (((words1.drop 24).drop 24).take 24).all (fun c => isCode c || c.before args0 about1) = true := by decide +kernel
set_option maxRecDepth 65536 in
theorem w_t4 : ((((words1.drop 24).drop 24).drop 24).take 24).all (fun c => isCode c || c.before args0 about1) = true := by decide +kernel
set_option maxRecDepth 65536 in
theorem w_t5 : (((((words1.drop 24).drop 24).drop 24).drop 24).take 24).all (fun c => isCode c || c.before args0 about1) = true := by decide +kernel
set_option maxRecDepth 65536 in
theorem w_t6 : ((((((words1.drop 24).drop 24).drop 24).drop 24).drop 24).take 24).all (fun c => isCode c || c.before args0 about1) = true := by decide +kernel
set_option maxRecDepth 65536 in
theorem w_t7 : ((((((words1.drop 24).drop 24).drop 24).drop 24).drop 24).drop 24).all (fun c => isCode c || c.before args0 about1) = true := by decide +kernel
theorem w_tables : (allAtoms (Jvm.Cond.code x code maxLocals ret :: tables_1)).before args0 about1 = true := by
  rw [allAtoms_all]
  show words1.all (fun c => c.before args0 about1) = true
  refine all_split ?_ w_codes
  rw [← List.take_append_drop 24 words1, List.all_append, w_t1, ← List.take_append_drop 24 (words1.drop 24), List.all_append, w_t2, ← List.take_append_drop 24 ((words1.drop 24).drop 24), List.all_append, w_t3, ← List.take_append_drop 24 (((words1.drop 24).drop 24).drop 24), List.all_append, w_t4, ← List.take_append_drop 24 ((((words1.drop 24).drop 24).drop 24).drop 24), List.all_append, w_t5, ← List.take_append_drop 24 (((((words1.drop 24).drop 24).drop 24).drop 24).drop 24), List.all_append, w_t6, w_t7]
  rfl
set_option maxRecDepth 65536 in
theorem w_rest : rest_1_c.before args0 about1 = true := by decide +kernel
set_option maxRecDepth 65536 in
theorem w_case : (Jvm.Cond.and given_1 narrow_1).before args0 about1 = true := by decide +kernel
theorem w_applies : (headSpec (Jvm.Cond.code x code maxLocals ret :: tables_1) room_1).applies x e0.platform about1 = true :=
  (Spec.applies_iff w_frames).mpr ⟨w_running, w_runnable, w_alone, w_named, w_hears, w_ripe, w_room, w_tables⟩
theorem atStart : AtStart classFile x code maxLocals ret World_1 tables_1 room_1 Calls_1 rest_1 Pre_1 launch0 p0 e0 about1 theMethod args0 below0 :=
  ⟨lists_1, trivial, launch0.admits_env _ _ _, launch0.least_env, fairChoices_fair.cas, fairChoices_fair.clock, w_frames, w_args, w_heap, w_applies, trivial, w_rest, w_case⟩
end start1
theorem witness_1 : WitnessClaimed_1 := ⟨start1.p0, start1.e0, start1.about1, start1.theMethod, start1.args0, start1.below0, start1.atStart⟩
end Jvm.Pilot.@@N@@
