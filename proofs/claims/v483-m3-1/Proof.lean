import JvmDerived
import JvmDerived.Pilot.@@N@@Statement
import JvmDerived.Pilot.@@N@@Code
set_option linter.unusedVariables false
set_option linter.unusedSimpArgs false
namespace Jvm.Pilot.@@N@@
open Jvm Jvm.ClassFile Sem Op Lib Jvm.Free Jvm.Stand Jvm.LawKit Jvm.RoadKit Bundle Jvm.Pilot.@@N@@.Jvm.D
/-- from A the run comes to B -/
def Go (p : Program) (e : Env) (below : List Frame) (A B : State) : Prop := ∀ t, Steps p.tables e below B t → Steps p.tables e below A t
def own_b (P : Prop) [Decidable P] : Int32 := if P then 1 else 0
theorem own_b1 {P : Prop} [Decidable P] (h : P) : ¬ own_b P = (0 : Int32) := by simp [own_b, h]
theorem own_b0 {P : Prop} [Decidable P] (h : ¬ P) : own_b P = (0 : Int32) := by simp [own_b, h]
theorem own_bt {P : Prop} [Decidable P] (h : P) : own_b P = (1 : Int32) := by simp [own_b, h]
theorem own_nb {P : Prop} [Decidable P] : nar .boolean (own_b P) = own_b P := by by_cases h : P <;> simp [own_b, h] <;> decide
theorem own_beq {P R : Prop} [Decidable P] [Decidable R] (h : P ↔ R) : own_b P = own_b R := by by_cases q : P <;> simp [own_b, q, ← h]
theorem d1_0 : decode jdk_29_method_69_code 0 = .ok (.iload_n 0, 1) := by decide +kernel
theorem d1_1 : decode jdk_29_method_69_code 1 = .ok (.iload_n 1, 1) := by decide +kernel
theorem d1_2 : decode jdk_29_method_69_code 2 = .ok (.if_icmp .gt 7, 3) := by decide +kernel
theorem d1_5 : decode jdk_29_method_69_code 5 = .ok (.iload_n 0, 1) := by decide +kernel
theorem d1_6 : decode jdk_29_method_69_code 6 = .ok (.goto 4, 3) := by decide +kernel
theorem d1_9 : decode jdk_29_method_69_code 9 = .ok (.iload_n 1, 1) := by decide +kernel
theorem d1_10 : decode jdk_29_method_69_code 10 = .ok (.ireturn, 1) := by decide +kernel
theorem d2_0 : decode jdk_29_method_65_code 0 = .ok (.iload_n 0, 1) := by decide +kernel
theorem d2_1 : decode jdk_29_method_65_code 1 = .ok (.iload_n 1, 1) := by decide +kernel
theorem d2_2 : decode jdk_29_method_65_code 2 = .ok (.if_icmp .lt 7, 3) := by decide +kernel
theorem d2_5 : decode jdk_29_method_65_code 5 = .ok (.iload_n 0, 1) := by decide +kernel
theorem d2_6 : decode jdk_29_method_65_code 6 = .ok (.goto 4, 3) := by decide +kernel
theorem d2_9 : decode jdk_29_method_65_code 9 = .ok (.iload_n 1, 1) := by decide +kernel
theorem d2_10 : decode jdk_29_method_65_code 10 = .ok (.ireturn, 1) := by decide +kernel
theorem d3_0 : decode prog_20_method_1_code 0 = .ok (.aload_n 0, 1) := by decide +kernel
theorem d3_1 : decode prog_20_method_1_code 1 = .ok (.invokespecial 1, 3) := by decide +kernel
theorem d3_4 : decode prog_20_method_1_code 4 = .ok (.aload_n 0, 1) := by decide +kernel
theorem d3_5 : decode prog_20_method_1_code 5 = .ok (.bipush 64, 2) := by decide +kernel
theorem d3_7 : decode prog_20_method_1_code 7 = .ok (.newarray .byte, 2) := by decide +kernel
theorem d3_9 : decode prog_20_method_1_code 9 = .ok (.putfield 7, 3) := by decide +kernel
theorem d3_12 : decode prog_20_method_1_code 12 = .ok (.return_, 1) := by decide +kernel
theorem d5_0 : decode prog_20_method_2_code 0 = .ok (.aload_n 0, 1) := by decide +kernel
theorem d5_1 : decode prog_20_method_2_code 1 = .ok (.aload_n 1, 1) := by decide +kernel
theorem d5_2 : decode prog_20_method_2_code 2 = .ok (.putfield 13, 3) := by decide +kernel
theorem d5_5 : decode prog_20_method_2_code 5 = .ok (.aload_n 0, 1) := by decide +kernel
theorem d5_6 : decode prog_20_method_2_code 6 = .ok (.iload_n 2, 1) := by decide +kernel
theorem d5_7 : decode prog_20_method_2_code 7 = .ok (.putfield 17, 3) := by decide +kernel
theorem d5_10 : decode prog_20_method_2_code 10 = .ok (.aload_n 0, 1) := by decide +kernel
theorem d5_11 : decode prog_20_method_2_code 11 = .ok (.iload_n 3, 1) := by decide +kernel
theorem d5_12 : decode prog_20_method_2_code 12 = .ok (.putfield 21, 3) := by decide +kernel
theorem d5_15 : decode prog_20_method_2_code 15 = .ok (.aload_n 0, 1) := by decide +kernel
theorem d5_16 : decode prog_20_method_2_code 16 = .ok (.iconst 0, 1) := by decide +kernel
theorem d5_17 : decode prog_20_method_2_code 17 = .ok (.putfield 24, 3) := by decide +kernel
theorem d5_20 : decode prog_20_method_2_code 20 = .ok (.return_, 1) := by decide +kernel
theorem d6_0 : decode prog_20_method_3_code 0 = .ok (.aload_n 0, 1) := by decide +kernel
theorem d6_1 : decode prog_20_method_3_code 1 = .ok (.getfield 13, 3) := by decide +kernel
theorem d6_4 : decode prog_20_method_3_code 4 = .ok (.astore_n 1, 1) := by decide +kernel
theorem d6_5 : decode prog_20_method_3_code 5 = .ok (.aload_n 0, 1) := by decide +kernel
theorem d6_6 : decode prog_20_method_3_code 6 = .ok (.getfield 21, 3) := by decide +kernel
theorem d6_9 : decode prog_20_method_3_code 9 = .ok (.istore_n 2, 1) := by decide +kernel
theorem d6_10 : decode prog_20_method_3_code 10 = .ok (.aload_n 0, 1) := by decide +kernel
theorem d6_11 : decode prog_20_method_3_code 11 = .ok (.getfield 17, 3) := by decide +kernel
theorem d6_14 : decode prog_20_method_3_code 14 = .ok (.istore_n 3, 1) := by decide +kernel
theorem d6_15 : decode prog_20_method_3_code 15 = .ok (.iload_n 3, 1) := by decide +kernel
theorem d6_16 : decode prog_20_method_3_code 16 = .ok (.iload_n 2, 1) := by decide +kernel
theorem d6_17 : decode prog_20_method_3_code 17 = .ok (.if_icmp .ge 70, 3) := by decide +kernel
theorem d6_20 : decode prog_20_method_3_code 20 = .ok (.aload_n 1, 1) := by decide +kernel
theorem d6_21 : decode prog_20_method_3_code 21 = .ok (.iload_n 3, 1) := by decide +kernel
theorem d6_22 : decode prog_20_method_3_code 22 = .ok (.caload, 1) := by decide +kernel
theorem d6_23 : decode prog_20_method_3_code 23 = .ok (.istore 4, 2) := by decide +kernel
theorem d6_25 : decode prog_20_method_3_code 25 = .ok (.iload 4, 2) := by decide +kernel
theorem d6_27 : decode prog_20_method_3_code 27 = .ok (.sipush 128, 3) := by decide +kernel
theorem d6_30 : decode prog_20_method_3_code 30 = .ok (.if_icmp .ge 15, 3) := by decide +kernel
theorem d6_33 : decode prog_20_method_3_code 33 = .ok (.getstatic 27, 3) := by decide +kernel
theorem d6_36 : decode prog_20_method_3_code 36 = .ok (.iload 4, 2) := by decide +kernel
theorem d6_38 : decode prog_20_method_3_code 38 = .ok (.baload, 1) := by decide +kernel
theorem d6_39 : decode prog_20_method_3_code 39 = .ok (.ifCond .eq 21, 3) := by decide +kernel
theorem d6_42 : decode prog_20_method_3_code 42 = .ok (.goto 45, 3) := by decide +kernel
theorem d6_60 : decode prog_20_method_3_code 60 = .ok (.iload_n 3, 1) := by decide +kernel
theorem d6_61 : decode prog_20_method_3_code 61 = .ok (.iload 4, 2) := by decide +kernel
theorem d6_63 : decode prog_20_method_3_code 63 = .ok (.sipush 128, 3) := by decide +kernel
theorem d6_66 : decode prog_20_method_3_code 66 = .ok (.if_icmp .ge 7, 3) := by decide +kernel
theorem d6_69 : decode prog_20_method_3_code 69 = .ok (.iconst 1, 1) := by decide +kernel
theorem d6_70 : decode prog_20_method_3_code 70 = .ok (.goto 12, 3) := by decide +kernel
theorem d6_82 : decode prog_20_method_3_code 82 = .ok (.iadd, 1) := by decide +kernel
theorem d6_83 : decode prog_20_method_3_code 83 = .ok (.istore_n 3, 1) := by decide +kernel
theorem d6_84 : decode prog_20_method_3_code 84 = .ok (.goto (-69), 3) := by decide +kernel
theorem d6_87 : decode prog_20_method_3_code 87 = .ok (.aload_n 0, 1) := by decide +kernel
theorem d6_88 : decode prog_20_method_3_code 88 = .ok (.iload_n 3, 1) := by decide +kernel
theorem d6_89 : decode prog_20_method_3_code 89 = .ok (.putfield 17, 3) := by decide +kernel
theorem d6_92 : decode prog_20_method_3_code 92 = .ok (.iload_n 3, 1) := by decide +kernel
theorem d6_93 : decode prog_20_method_3_code 93 = .ok (.iload_n 2, 1) := by decide +kernel
theorem d6_94 : decode prog_20_method_3_code 94 = .ok (.if_icmp .ne 5, 3) := by decide +kernel
theorem d6_97 : decode prog_20_method_3_code 97 = .ok (.iconst 0, 1) := by decide +kernel
theorem d6_98 : decode prog_20_method_3_code 98 = .ok (.ireturn, 1) := by decide +kernel
theorem d6_99 : decode prog_20_method_3_code 99 = .ok (.iload_n 3, 1) := by decide +kernel
theorem d6_100 : decode prog_20_method_3_code 100 = .ok (.istore 4, 2) := by decide +kernel
theorem d6_102 : decode prog_20_method_3_code 102 = .ok (.iconst 1, 1) := by decide +kernel
theorem d6_103 : decode prog_20_method_3_code 103 = .ok (.istore 5, 2) := by decide +kernel
theorem d6_105 : decode prog_20_method_3_code 105 = .ok (.aload_n 0, 1) := by decide +kernel
theorem d6_106 : decode prog_20_method_3_code 106 = .ok (.getfield 7, 3) := by decide +kernel
theorem d6_109 : decode prog_20_method_3_code 109 = .ok (.astore 6, 2) := by decide +kernel
theorem d6_111 : decode prog_20_method_3_code 111 = .ok (.iconst 0, 1) := by decide +kernel
theorem d6_112 : decode prog_20_method_3_code 112 = .ok (.istore 7, 2) := by decide +kernel
theorem d6_114 : decode prog_20_method_3_code 114 = .ok (.iload_n 3, 1) := by decide +kernel
theorem d6_115 : decode prog_20_method_3_code 115 = .ok (.iload_n 2, 1) := by decide +kernel
theorem d6_116 : decode prog_20_method_3_code 116 = .ok (.if_icmp .ge 100, 3) := by decide +kernel
theorem d6_119 : decode prog_20_method_3_code 119 = .ok (.aload_n 1, 1) := by decide +kernel
theorem d6_120 : decode prog_20_method_3_code 120 = .ok (.iload_n 3, 1) := by decide +kernel
theorem d6_121 : decode prog_20_method_3_code 121 = .ok (.caload, 1) := by decide +kernel
theorem d6_122 : decode prog_20_method_3_code 122 = .ok (.istore 8, 2) := by decide +kernel
theorem d6_124 : decode prog_20_method_3_code 124 = .ok (.iload 8, 2) := by decide +kernel
theorem d6_126 : decode prog_20_method_3_code 126 = .ok (.sipush 128, 3) := by decide +kernel
theorem d6_129 : decode prog_20_method_3_code 129 = .ok (.if_icmp .ge 54, 3) := by decide +kernel
theorem d6_132 : decode prog_20_method_3_code 132 = .ok (.getstatic 27, 3) := by decide +kernel
theorem d6_135 : decode prog_20_method_3_code 135 = .ok (.iload 8, 2) := by decide +kernel
theorem d6_137 : decode prog_20_method_3_code 137 = .ok (.baload, 1) := by decide +kernel
theorem d6_138 : decode prog_20_method_3_code 138 = .ok (.istore 9, 2) := by decide +kernel
theorem d6_140 : decode prog_20_method_3_code 140 = .ok (.iload 9, 2) := by decide +kernel
theorem d6_142 : decode prog_20_method_3_code 142 = .ok (.ifCond .ne 6, 3) := by decide +kernel
theorem d6_145 : decode prog_20_method_3_code 145 = .ok (.goto 71, 3) := by decide +kernel
theorem d6_148 : decode prog_20_method_3_code 148 = .ok (.iload 7, 2) := by decide +kernel
theorem d6_150 : decode prog_20_method_3_code 150 = .ok (.aload 6, 2) := by decide +kernel
theorem d6_152 : decode prog_20_method_3_code 152 = .ok (.arraylength, 1) := by decide +kernel
theorem d6_153 : decode prog_20_method_3_code 153 = .ok (.if_icmp .ne 14, 3) := by decide +kernel
theorem d6_167 : decode prog_20_method_3_code 167 = .ok (.aload 6, 2) := by decide +kernel
theorem d6_169 : decode prog_20_method_3_code 169 = .ok (.iload 7, 2) := by decide +kernel
theorem d6_171 : decode prog_20_method_3_code 171 = .ok (.iinc 7 1, 3) := by decide +kernel
theorem d6_174 : decode prog_20_method_3_code 174 = .ok (.iload 9, 2) := by decide +kernel
theorem d6_176 : decode prog_20_method_3_code 176 = .ok (.bastore, 1) := by decide +kernel
theorem d6_177 : decode prog_20_method_3_code 177 = .ok (.iinc 3 1, 3) := by decide +kernel
theorem d6_180 : decode prog_20_method_3_code 180 = .ok (.goto 33, 3) := by decide +kernel
theorem d6_213 : decode prog_20_method_3_code 213 = .ok (.goto (-99), 3) := by decide +kernel
theorem d6_216 : decode prog_20_method_3_code 216 = .ok (.iload 5, 2) := by decide +kernel
theorem d6_218 : decode prog_20_method_3_code 218 = .ok (.ifCond .ne 66, 3) := by decide +kernel
theorem d6_284 : decode prog_20_method_3_code 284 = .ok (.aload_n 0, 1) := by decide +kernel
theorem d6_285 : decode prog_20_method_3_code 285 = .ok (.iload_n 3, 1) := by decide +kernel
theorem d6_286 : decode prog_20_method_3_code 286 = .ok (.putfield 17, 3) := by decide +kernel
theorem d6_289 : decode prog_20_method_3_code 289 = .ok (.aload_n 0, 1) := by decide +kernel
theorem d6_290 : decode prog_20_method_3_code 290 = .ok (.aload 6, 2) := by decide +kernel
theorem d6_292 : decode prog_20_method_3_code 292 = .ok (.putfield 7, 3) := by decide +kernel
theorem d6_295 : decode prog_20_method_3_code 295 = .ok (.aload_n 0, 1) := by decide +kernel
theorem d6_296 : decode prog_20_method_3_code 296 = .ok (.iload 7, 2) := by decide +kernel
theorem d6_298 : decode prog_20_method_3_code 298 = .ok (.putfield 24, 3) := by decide +kernel
theorem d6_301 : decode prog_20_method_3_code 301 = .ok (.iconst 1, 1) := by decide +kernel
theorem d6_302 : decode prog_20_method_3_code 302 = .ok (.ireturn, 1) := by decide +kernel
theorem d7_0 : decode prog_20_method_5_code 0 = .ok (.aload_n 0, 1) := by decide +kernel
theorem d7_1 : decode prog_20_method_5_code 1 = .ok (.getfield 24, 3) := by decide +kernel
theorem d7_4 : decode prog_20_method_5_code 4 = .ok (.ireturn, 1) := by decide +kernel
theorem d8_0 : decode method_3_code 0 = .ok (.iload_n 0, 1) := by decide +kernel
theorem d8_1 : decode method_3_code 1 = .ok (.bipush 48, 2) := by decide +kernel
theorem d8_3 : decode method_3_code 3 = .ok (.if_icmp .lt 11, 3) := by decide +kernel
theorem d8_6 : decode method_3_code 6 = .ok (.iload_n 0, 1) := by decide +kernel
theorem d8_7 : decode method_3_code 7 = .ok (.bipush 57, 2) := by decide +kernel
theorem d8_9 : decode method_3_code 9 = .ok (.if_icmp .gt 5, 3) := by decide +kernel
theorem d8_12 : decode method_3_code 12 = .ok (.iconst 1, 1) := by decide +kernel
theorem d8_13 : decode method_3_code 13 = .ok (.ireturn, 1) := by decide +kernel
theorem d8_14 : decode method_3_code 14 = .ok (.iload_n 0, 1) := by decide +kernel
theorem d8_15 : decode method_3_code 15 = .ok (.bipush 97, 2) := by decide +kernel
theorem d8_17 : decode method_3_code 17 = .ok (.if_icmp .lt 11, 3) := by decide +kernel
theorem d8_20 : decode method_3_code 20 = .ok (.iload_n 0, 1) := by decide +kernel
theorem d8_21 : decode method_3_code 21 = .ok (.bipush 122, 2) := by decide +kernel
theorem d8_23 : decode method_3_code 23 = .ok (.if_icmp .gt 5, 3) := by decide +kernel
theorem d8_26 : decode method_3_code 26 = .ok (.iconst 1, 1) := by decide +kernel
theorem d8_27 : decode method_3_code 27 = .ok (.ireturn, 1) := by decide +kernel
theorem d8_28 : decode method_3_code 28 = .ok (.iload_n 0, 1) := by decide +kernel
theorem d8_29 : decode method_3_code 29 = .ok (.bipush 65, 2) := by decide +kernel
theorem d8_31 : decode method_3_code 31 = .ok (.if_icmp .lt 13, 3) := by decide +kernel
theorem d8_34 : decode method_3_code 34 = .ok (.iload_n 0, 1) := by decide +kernel
theorem d8_35 : decode method_3_code 35 = .ok (.bipush 90, 2) := by decide +kernel
theorem d8_37 : decode method_3_code 37 = .ok (.if_icmp .gt 7, 3) := by decide +kernel
theorem d8_40 : decode method_3_code 40 = .ok (.iconst 1, 1) := by decide +kernel
theorem d8_41 : decode method_3_code 41 = .ok (.goto 4, 3) := by decide +kernel
theorem d8_44 : decode method_3_code 44 = .ok (.iconst 0, 1) := by decide +kernel
theorem d8_45 : decode method_3_code 45 = .ok (.ireturn, 1) := by decide +kernel
theorem d9_0 : decode prog_20_method_4_code 0 = .ok (.aload_n 0, 1) := by decide +kernel
theorem d9_1 : decode prog_20_method_4_code 1 = .ok (.getfield 7, 3) := by decide +kernel
theorem d9_4 : decode prog_20_method_4_code 4 = .ok (.areturn, 1) := by decide +kernel
theorem d10_0 : decode method_5_code 0 = .ok (.iload_n 2, 1) := by decide +kernel
theorem d10_1 : decode method_5_code 1 = .ok (.iload_n 3, 1) := by decide +kernel
theorem d10_2 : decode method_5_code 2 = .ok (.iadd, 1) := by decide +kernel
theorem d10_3 : decode method_5_code 3 = .ok (.iload 4, 2) := by decide +kernel
theorem d10_5 : decode method_5_code 5 = .ok (.if_icmp .lt 5, 3) := by decide +kernel
theorem d10_8 : decode method_5_code 8 = .ok (.iconst 1, 1) := by decide +kernel
theorem d10_9 : decode method_5_code 9 = .ok (.ireturn, 1) := by decide +kernel
theorem d10_10 : decode method_5_code 10 = .ok (.aload_n 0, 1) := by decide +kernel
theorem d10_11 : decode method_5_code 11 = .ok (.iload_n 3, 1) := by decide +kernel
theorem d10_12 : decode method_5_code 12 = .ok (.baload, 1) := by decide +kernel
theorem d10_13 : decode method_5_code 13 = .ok (.aload_n 1, 1) := by decide +kernel
theorem d10_14 : decode method_5_code 14 = .ok (.iload_n 2, 1) := by decide +kernel
theorem d10_15 : decode method_5_code 15 = .ok (.iload_n 3, 1) := by decide +kernel
theorem d10_16 : decode method_5_code 16 = .ok (.iadd, 1) := by decide +kernel
theorem d10_17 : decode method_5_code 17 = .ok (.caload, 1) := by decide +kernel
theorem d10_18 : decode method_5_code 18 = .ok (.invokestatic 45, 3) := by decide +kernel
theorem d10_21 : decode method_5_code 21 = .ok (.i2b, 1) := by decide +kernel
theorem d10_22 : decode method_5_code 22 = .ok (.if_icmp .ne 7, 3) := by decide +kernel
theorem d10_25 : decode method_5_code 25 = .ok (.iconst 1, 1) := by decide +kernel
theorem d10_26 : decode method_5_code 26 = .ok (.goto 4, 3) := by decide +kernel
theorem d10_30 : decode method_5_code 30 = .ok (.ireturn, 1) := by decide +kernel
theorem d11_0 : decode method_4_code 0 = .ok (.iload_n 0, 1) := by decide +kernel
theorem d11_1 : decode method_4_code 1 = .ok (.bipush 65, 2) := by decide +kernel
theorem d11_3 : decode method_4_code 3 = .ok (.if_icmp .lt 14, 3) := by decide +kernel
theorem d11_6 : decode method_4_code 6 = .ok (.iload_n 0, 1) := by decide +kernel
theorem d11_7 : decode method_4_code 7 = .ok (.bipush 90, 2) := by decide +kernel
theorem d11_9 : decode method_4_code 9 = .ok (.if_icmp .gt 8, 3) := by decide +kernel
theorem d11_12 : decode method_4_code 12 = .ok (.iload_n 0, 1) := by decide +kernel
theorem d11_13 : decode method_4_code 13 = .ok (.bipush 32, 2) := by decide +kernel
theorem d11_15 : decode method_4_code 15 = .ok (.iadd, 1) := by decide +kernel
theorem d11_16 : decode method_4_code 16 = .ok (.ireturn, 1) := by decide +kernel
theorem d11_17 : decode method_4_code 17 = .ok (.iload_n 0, 1) := by decide +kernel
theorem d11_18 : decode method_4_code 18 = .ok (.ireturn, 1) := by decide +kernel
theorem pn_0 : plainName "com/example/subtree/subtree/index/PlainWordsResetPinLaw" = true := by first | (simp [plainName, overriddenIn]; done) | decide +kernel
theorem pn_1 : plainName "com/example/subtree/subtree/index/PlainWords" = true := by first | (simp [plainName, overriddenIn]; done) | decide +kernel
theorem pd_0 : parseMethodDescriptor "(C)I" = some ⟨[.char], some .int⟩ := by decide +kernel
theorem pd_1 : parseMethodDescriptor "(II)I" = some ⟨[.int, .int], some .int⟩ := by decide +kernel
theorem pd_2 : parseMethodDescriptor "()V" = some ⟨[], none⟩ := by decide +kernel
theorem pd_3 : parseMethodDescriptor "([CII)V" = some ⟨[(.array .char), .int, .int], none⟩ := by decide +kernel
theorem pd_4 : parseMethodDescriptor "()Z" = some ⟨[], some .boolean⟩ := by decide +kernel
theorem pd_5 : parseMethodDescriptor "()I" = some ⟨[], some .int⟩ := by decide +kernel
theorem pd_6 : parseMethodDescriptor "(C)Z" = some ⟨[.char], some .boolean⟩ := by decide +kernel
theorem pd_7 : parseMethodDescriptor "()[B" = some ⟨[], some (.array .byte)⟩ := by decide +kernel
theorem pd_8 : parseMethodDescriptor "([B[CIII)Z" = some ⟨[(.array .byte), (.array .char), .int, .int, .int], some .boolean⟩ := by decide +kernel
theorem ef_rmMN (m : MethodId) (x0 : Int32) (x1 : Int32) : entryFrame m #[(.int x0), (.int x1)] 2 = mkF m 0 #[.val (.int x0), .val (.int x1)] [] := by first | (simp [entryFrame, mkF, argsToLocals, Value.category]; done) | rfl
theorem ef_rmMX (m : MethodId) (x0 : Int32) (x1 : Int32) : entryFrame m #[(.int x0), (.int x1)] 2 = mkF m 0 #[.val (.int x0), .val (.int x1)] [] := by first | (simp [entryFrame, mkF, argsToLocals, Value.category]; done) | rfl
theorem ef_rmIW (m : MethodId) (x0 : Int32) : entryFrame m #[(.int x0)] 1 = mkF m 0 #[.val (.int x0)] [] := by first | (simp [entryFrame, mkF, argsToLocals, Value.category]; done) | rfl
theorem ef_rmLO (m : MethodId) (x0 : Int32) : entryFrame m #[(.int x0)] 1 = mkF m 0 #[.val (.int x0)] [] := by first | (simp [entryFrame, mkF, argsToLocals, Value.category]; done) | rfl
theorem ef_rmI (m : MethodId) (x0 : Addr) : entryFrame m #[(.ref x0)] 1 = mkF m 0 #[.val (.ref x0)] [] := by first | (simp [entryFrame, mkF, argsToLocals, Value.category]; done) | rfl
theorem ef_rmR (m : MethodId) (x0 : Addr) (x1 : Addr) (x2 : Int32) (x3 : Int32) : entryFrame m #[(.ref x0), (.ref x1), (.int x2), (.int x3)] 4 = mkF m 0 #[.val (.ref x0), .val (.ref x1), .val (.int x2), .val (.int x3)] [] := by first | (simp [entryFrame, mkF, argsToLocals, Value.category]; done) | rfl
theorem ef_rmL (m : MethodId) (x0 : Addr) : entryFrame m #[(.ref x0)] 1 = mkF m 0 #[.val (.ref x0)] [] := by first | (simp [entryFrame, mkF, argsToLocals, Value.category]; done) | rfl
theorem ef_rmW (m : MethodId) (x0 : Addr) : entryFrame m #[(.ref x0)] 1 = mkF m 0 #[.val (.ref x0)] [] := by first | (simp [entryFrame, mkF, argsToLocals, Value.category]; done) | rfl
theorem ef_rmX (m : MethodId) (x0 : Addr) : entryFrame m #[(.ref x0)] 10 = mkF m 0 #[.val (.ref x0), .unset, .unset, .unset, .unset, .unset, .unset, .unset, .unset, .unset] [] := by first | (simp [entryFrame, mkF, argsToLocals, Value.category]; done) | rfl
theorem ef_rmSM0 (m : MethodId) (x0 : Addr) (x1 : Addr) (x2 : Int32) (x3 : Int32) (x4 : Int32) : entryFrame m #[(.ref x0), (.ref x1), (.int x2), (.int x3), (.int x4)] 5 = mkF m 0 #[.val (.ref x0), .val (.ref x1), .val (.int x2), .val (.int x3), .val (.int x4)] [] := by first | (simp [entryFrame, mkF, argsToLocals, Value.category]; done) | rfl
theorem ef_rmSM1 (m : MethodId) (x0 : Addr) (x1 : Addr) (x2 : Int32) (x3 : Int32) (x4 : Int32) : entryFrame m #[(.ref x0), (.ref x1), (.int x2), (.int x3), (.int x4)] 5 = mkF m 0 #[.val (.ref x0), .val (.ref x1), .val (.int x2), .val (.int x3), .val (.int x4)] [] := by first | (simp [entryFrame, mkF, argsToLocals, Value.category]; done) | rfl
theorem ef_rmSM2 (m : MethodId) (x0 : Addr) (x1 : Addr) (x2 : Int32) (x3 : Int32) (x4 : Int32) : entryFrame m #[(.ref x0), (.ref x1), (.int x2), (.int x3), (.int x4)] 5 = mkF m 0 #[.val (.ref x0), .val (.ref x1), .val (.int x2), .val (.int x3), .val (.int x4)] [] := by first | (simp [entryFrame, mkF, argsToLocals, Value.category]; done) | rfl
theorem ef_rm0 (m : MethodId) (x0 : Int32) (x1 : Int32) (x2 : Int32) (x3 : Int32) : entryFrame m #[(.int x0), (.int x1), (.int x2), (.int x3)] maxLocals = mkF m 0 #[.val (.int x0), .val (.int x1), .val (.int x2), .val (.int x3), .unset, .unset, .unset, .unset, .unset, .unset, .unset, .unset, .unset, .unset, .unset, .unset] [] := by first | (simp [entryFrame, mkF, argsToLocals, Value.category, maxLocals]; done) | rfl
def Qn (h0 : Heap) (n0 : Nat) (v : Option Value) (h : Heap) (L : List Loc) : Prop := v = none ∧ Fr n0 L ∧ h = h0
def Qr (r : Value) (h0 : Heap) (n0 : Nat) (v : Option Value) (h : Heap) (L : List Loc) : Prop := v = some r ∧ Fr n0 L ∧ h = h0
theorem own_eqI {args : Array Value} {s : State} {t : Term} {k : Int32} (h : (Jvm.Cond.eq t (.int k)).value args s none s [] = some true) : t.eval args s none [] s = some (.int k) := by
  simp only [Cond.value, Term.eval] at h
  cases ht : t.eval args s none [] s with
  | none => simp [ht] at h
  | some x => cases x <;> simp [ht] at h ⊢; exact h
theorem own_eqR {args : Array Value} {s : State} {t u : Term} {b : Addr} (h : (Jvm.Cond.eq t u).value args s none s [] = some true) (hu : u.eval args s none [] s = some (.ref b)) : t.eval args s none [] s = some (.ref b) := by
  simp only [Cond.value, hu] at h
  cases ht : t.eval args s none [] s with
  | none => simp [ht] at h
  | some x => cases x <;> simp [ht] at h ⊢; exact h
theorem own_arv {args : Array Value} {s : State} {t : Term} {a : Addr} {cl : Cell} {ty : FieldType} {z : Int32} (A : Arr s s.heap a cl ty) (ht : t.eval args s none [] s = some (.ref a)) (hl : (Term.length t).eval args s none [] s = some (.int z)) : cl.slots.size < 2 ^ 31 ∧ cl.slots.size.toInt32 = z := by
  obtain ⟨b, cell, e1, e2, h31, e3⟩ := Jvm.Lib.length_spec hl
  cases ht.symm.trans e1
  have e4 := A.fin (Vm.Alike.refl _)
  cases e4.symm.trans e2
  exact ⟨h31, (Value.int.inj e3).symm⟩
theorem own_size {n k : Nat} {z : Int32} (h : n < 2 ^ 31) (e : n.toInt32 = z) (hz : z.toInt = (k : Int)) : n = k := by
  have q := len_toInt h
  rw [e, hz] at q
  exact (Int.ofNat.inj q).symm
theorem own_all {args : Array Value} {s : State} {C n d K : String} {a : Addr} {cl : Cell} {ty : FieldType} {c2 : Jvm.Cond} (A : Arr s s.heap a cl ty) (ev : (Term.static C n d).eval args s none [] s = some (.ref a))
    (h : (Jvm.Cond.all (.static C n d) (.and (.exactly (.elem (.static C n d) (.index 0)) K) c2)).value args s none s [] = some true) {j : Int32} (hj : ¬ (j < 0 ∨ cl.slots.size ≤ j.toNatClampNeg)) : ∃ r, cl.slots[j.toNatClampNeg]? = some (.ref r) ∧ Exa s s.heap r K := by
  have q := Cond.all_elim ev (A.fin (Vm.Alike.refl _)) h j.toNatClampNeg (Nat.lt_of_not_le fun y => hj (Or.inr y))
  obtain ⟨q1, -⟩ := and_e q
  obtain ⟨r, er⟩ := exa_v q1
  have ev' : (Term.static C n d).eval args s none [j.toNatClampNeg] s = some (.ref a) := by simpa only [Term.eval] using ev
  exact ⟨r, (elem_in er ev' (idx_at fun y => hj (Or.inl y)) A.1).2, exa_at er q1⟩
/-- an array of n places; place j holds g j -/
def Af (Z : State) (h : Heap) (a : Addr) (k : ClassId) (ty : FieldType) (n : Int32) (g : Nat → Value) : Prop := ∃ c : Cell, Arr Z h a c ty ∧ c.cls = k ∧ c.slots.size = n.toNatClampNeg ∧ ¬ n < 0 ∧ ∀ j, j < n.toNatClampNeg → c.slots[j]? = some (g j)
theorem Af.lt {Z : State} {h : Heap} {a : Addr} {k : ClassId} {ty : FieldType} {n : Int32} {g : Nat → Value} (F : Af Z h a k ty n g) : a < h.size := by obtain ⟨c, A, -⟩ := F; exact A.lt
theorem Af.ext {Z : State} {h h' : Heap} {a : Addr} {k : ClassId} {ty : FieldType} {n : Int32} {g : Nat → Value} (F : Af Z h a k ty n g) (E : Ext h h') : Af Z h' a k ty n g := by obtain ⟨c, A, r⟩ := F; exact ⟨c, A.ext E, r⟩
theorem Af.other {Z : State} {h h' : Heap} {a b : Addr} {sl : Nat} {v : Value} {k : ClassId} {ty : FieldType} {n : Int32} {g : Nat → Value} (F : Af Z h b k ty n g) (W : Wr h h' a sl v) (q : b ≠ a) : Af Z h' b k ty n g := by obtain ⟨c, A, r⟩ := F; exact ⟨c, A.other W q, r⟩
theorem Af.keep {Z : State} {h h' : Heap} {a : Addr} {ws : List Addr} {k : ClassId} {ty : FieldType} {n : Int32} {g : Nat → Value} (F : Af Z h a k ty n g) (K : Keep h h' ws) (q : a ∉ ws) : Af Z h' a k ty n g := by obtain ⟨c, A, r⟩ := F; exact ⟨c, ⟨K.2.1 a c A.1 q, A.2⟩, r⟩
theorem Af.of {Z : State} {h : Heap} {a : Addr} {k : ClassId} {ty : FieldType} {n : Int32} {vs : List Value} {d : Value} (F : Arv Z h a k ty n vs d) : Af Z h a k ty n (fun j => vs.getD j d) := by
  obtain ⟨c, A, q, S, M, H, -⟩ := F
  exact ⟨c, A, q, S, M, fun j hj => H j (by rw [S]; exact hj)⟩
theorem Af.set {Z : State} {h h' : Heap} {a : Addr} {c : Cell} {k : ClassId} {ty : FieldType} {n j : Int32} {v : Value} {g : Nat → Value} (A : Arr Z h a c ty) (q : c.cls = k) (S : c.slots.size = n.toNatClampNeg) (M : ¬ n < 0) (H : ∀ j, j < n.toNatClampNeg → c.slots[j]? = some (g j)) (W : Wr h h' a j.toNatClampNeg v) (hj : ¬ (j < 0 ∨ c.slots.size ≤ j.toNatClampNeg)) : Af Z h' a k ty n (fun i => if i = j.toNatClampNeg then v else g i) := by
  refine ⟨_, A.same W, q, (sz_set _ _ _).trans S, M, fun i hi => ?_⟩
  by_cases e : i = j.toNatClampNeg
  · subst e
    have hl : j.toNatClampNeg < c.slots.size := Nat.lt_of_not_le fun y => hj (Or.inr y)
    simp [Cell.setSlot, hl]
  · simp only [e, if_false]
    rw [← H i hi]
    simp [Cell.setSlot, Array.getElem?_setIfInBounds, Ne.symm e]
theorem Af.fn {Z : State} {h : Heap} {a : Addr} {k : ClassId} {ty : FieldType} {n : Int32} {g g' : Nat → Value} (F : Af Z h a k ty n g) (e : ∀ j, j < n.toNatClampNeg → g j = g' j) : Af Z h a k ty n g' := by
  obtain ⟨c, A, q, S, M, H⟩ := F
  exact ⟨c, A, q, S, M, fun j hj => (H j hj).trans (congrArg some (e j hj))⟩
def own_up (f : Nat → Int32) (i : Nat) (v : Int32) : Nat → Int32 := fun j => if j = i then v else f j
theorem own_upf (f : Nat → Int32) (a b : Nat) (v : Int32) (h : a = b) (j : Nat) : (if j = a then Value.int v else (fun i => Value.int (f i)) j) = .int (own_up f b v j) := by subst h; unfold own_up; split <;> rfl
def own_W (c : Int32) : Prop := (¬ c < (48 : Int32) ∧ ¬ (57 : Int32) < c) ∨ (¬ c < (97 : Int32) ∧ ¬ (122 : Int32) < c) ∨ (¬ c < (65 : Int32) ∧ ¬ (90 : Int32) < c)
instance own_Wd (c : Int32) : Decidable (own_W c) := by unfold own_W; infer_instance
def own_low (c : Int32) : Int32 := if ¬ c < (65 : Int32) ∧ ¬ (90 : Int32) < c then c + (32 : Int32) else c
def own_a (c : Int32) : Int32 := if own_W c then own_low c else 0
theorem own_Wi (c : Int32) : own_W c ↔ (48 ≤ c.toInt ∧ c.toInt ≤ 57) ∨ (97 ≤ c.toInt ∧ c.toInt ≤ 122) ∨ (65 ≤ c.toInt ∧ c.toInt ≤ 90) := by
  unfold own_W
  simp only [Int32.lt_iff_toInt_lt, Int32.reduceToInt]
  omega
theorem own_lowU (c : Int32) (h : 65 ≤ c.toInt ∧ c.toInt ≤ 90) : own_low c = c + 32 ∧ (own_low c).toInt = c.toInt + 32 := by
  have e : own_low c = c + 32 := by
    unfold own_low
    rw [if_pos (by simp only [Int32.lt_iff_toInt_lt, Int32.reduceToInt]; omega)]
  refine ⟨e, ?_⟩
  have a := c_iadd c 32
  have b := rng32 (c + 32)
  simp only [Int32.reduceToInt] at a
  rw [e]; omega
theorem own_lowN (c : Int32) (h : ¬ (65 ≤ c.toInt ∧ c.toInt ≤ 90)) : own_low c = c := by
  unfold own_low
  rw [if_neg (by simp only [Int32.lt_iff_toInt_lt, Int32.reduceToInt]; omega)]
theorem own_lowR {c : Int32} (h : own_W c) : 48 ≤ (own_low c).toInt ∧ (own_low c).toInt ≤ 122 := by
  rw [own_Wi] at h
  by_cases u : 65 ≤ c.toInt ∧ c.toInt ≤ 90
  · have := (own_lowU c u).2; omega
  · rw [own_lowN c u]; omega
theorem own_i8 {x : Int32} (h : 0 ≤ x.toInt ∧ x.toInt ≤ 127) : x.toInt8.toInt32 = x := by
  have a := c_i2b x
  rw [← Int32.toInt_inj]; omega
theorem own_lowB {c : Int32} (h : own_W c) : (own_low c).toInt8.toInt32 = own_low c := own_i8 (by have := own_lowR h; omega)
theorem own_aW {c : Int32} (h : own_W c) : own_a c = own_low c := by unfold own_a; rw [if_pos h]
theorem own_a0 {c : Int32} (h : ¬ own_W c) : own_a c = (0 : Int32) := by unfold own_a; rw [if_neg h]
theorem own_a1 {c : Int32} (h : own_W c) : ¬ own_a c = (0 : Int32) := by
  rw [own_aW h]; intro q
  have := own_lowR h
  rw [q] at this; simp only [Int32.reduceToInt] at this; omega
theorem own_naB (c : Int32) : nar .byte (own_a c) = own_a c := by
  show (own_a c).toInt8.toInt32 = own_a c
  by_cases h : own_W c
  · rw [own_aW h]; exact own_lowB h
  · rw [own_a0 h]; decide
theorem own_back {c : Int32} (h : ¬ c < 0) : c.toNatClampNeg.toInt32 = c := (Jvm.RoadKit.back32 h).1
def own_st (tt : Nat → Int32) (n x : Int32) : Int32 := if x < n ∧ ¬ own_W (tt x.toNatClampNeg) then x + (1 : Int32) else x
def own_en (tt : Nat → Int32) (n x : Int32) : Int32 := if x < n ∧ own_W (tt x.toNatClampNeg) then x + (1 : Int32) else x
theorem own_s1 {x n : Int32} (h : x < n) : (x + (1 : Int32)).toInt = x.toInt + 1 := by
  have a := c_iadd x 1
  have b := rng32 (x + 1)
  have c := rng32 n
  have d := rng32 x
  simp only [Int32.lt_iff_toInt_lt, Int32.reduceToInt] at *
  omega
theorem own_pos {x n : Int32} (hz : ¬ x < 0) (h : x < n) : ¬ (x + (1 : Int32)) < 0 := by
  have a := own_s1 h
  simp only [Int32.lt_iff_toInt_lt, Int32.reduceToInt] at *
  omega
theorem own_nlt1 {x n : Int32} (h : x < n) : ¬ n < (x + (1 : Int32)) := by
  have a := own_s1 h
  simp only [Int32.lt_iff_toInt_lt, Int32.reduceToInt] at *
  omega
theorem own_ltt {x n z : Int32} (h : x < n) (hn : ¬ z < n) : x < z := by simp only [Int32.lt_iff_toInt_lt] at *; omega
theorem own_ltne {x n : Int32} (h : x < n) : ¬ x = n := by rintro rfl; simp only [Int32.lt_iff_toInt_lt] at h; omega
theorem own_eqn {x n : Int32} (h : ¬ n < x) (h2 : ¬ x < n) : x = n := by rw [← Int32.toInt_inj]; simp only [Int32.lt_iff_toInt_lt] at *; omega
theorem own_natl {x z : Int32} (hz : ¬ x < 0) (h : x < z) : x.toNatClampNeg < z.toNatClampNeg := by
  have a := nat_of hz
  have hz' : ¬ z < 0 := by simp only [Int32.lt_iff_toInt_lt, Int32.reduceToInt] at *; omega
  have b := nat_of hz'
  simp only [Int32.lt_iff_toInt_lt, Int32.reduceToInt] at *; omega
theorem own_lim {x n : Int32} (hz : ¬ x < 0) (h : x < n) (h3 : ¬ (3 : Int32) < n) : ¬ (((x + (1 : Int32)) + (1 : Int32)) + (1 : Int32)) < n := by
  have a := c_iadd x 1
  have b := rng32 (x + 1)
  have c := c_iadd (x + 1) 1
  have d := rng32 (x + 1 + 1)
  have e := c_iadd (x + 1 + 1) 1
  have f := rng32 (x + 1 + 1 + 1)
  simp only [Int32.lt_iff_toInt_lt, Int32.reduceToInt] at *
  omega
theorem own_d0 (x : Int32) : (0 : Int32) = x - x := by simp
theorem own_d1 (x : Int32) : (1 : Int32) = (x + (1 : Int32)) - x := by
  have a := c_iadd x 1
  have b := rng32 (x + 1)
  have c := c_isub (x + 1) x
  have d := rng32 (x + 1 - x)
  rw [← Int32.toInt_inj]; simp only [Int32.reduceToInt] at *; omega
theorem own_d2 (x : Int32) : (2 : Int32) = ((x + (1 : Int32)) + (1 : Int32)) - x := by
  have a := c_iadd x 1
  have b := rng32 (x + 1)
  have a2 := c_iadd (x + 1) 1
  have b2 := rng32 (x + 1 + 1)
  have c := c_isub (x + 1 + 1) x
  have d := rng32 (x + 1 + 1 - x)
  rw [← Int32.toInt_inj]; simp only [Int32.reduceToInt] at *; omega
theorem own_d3 (x : Int32) : (3 : Int32) = (((x + (1 : Int32)) + (1 : Int32)) + (1 : Int32)) - x := by
  have a := c_iadd x 1
  have b := rng32 (x + 1)
  have a2 := c_iadd (x + 1) 1
  have b2 := rng32 (x + 1 + 1)
  have a3 := c_iadd (x + 1 + 1) 1
  have b3 := rng32 (x + 1 + 1 + 1)
  have c := c_isub (x + 1 + 1 + 1) x
  have d := rng32 (x + 1 + 1 + 1 - x)
  rw [← Int32.toInt_inj]; simp only [Int32.reduceToInt] at *; omega
def own_ct (tt : Nat → Int32) (sv ev : Int32) (g : Nat → Int32) : Prop := (sv < ev → g 0 = own_low (tt sv.toNatClampNeg) ∧ own_W (tt sv.toNatClampNeg)) ∧ (sv + (1 : Int32) < ev → g 1 = own_low (tt (sv + (1 : Int32)).toNatClampNeg) ∧ own_W (tt (sv + (1 : Int32)).toNatClampNeg)) ∧ ((sv + (1 : Int32)) + (1 : Int32) < ev → g 2 = own_low (tt ((sv + (1 : Int32)) + (1 : Int32)).toNatClampNeg) ∧ own_W (tt ((sv + (1 : Int32)) + (1 : Int32)).toNatClampNeg))
theorem own_ir (x : Int32) : ¬ x < x := by simp only [Int32.lt_iff_toInt_lt]; omega
theorem own_ir1 {x : Int32} (hz : ¬ x < 0) (h3 : ¬ (3 : Int32) < x) : ¬ x + (1 : Int32) < x ∧ ¬ (x + (1 : Int32)) + (1 : Int32) < x ∧ ¬ (x + (1 : Int32)) + (1 : Int32) < x + (1 : Int32) := by
  have a := c_iadd x 1
  have b := rng32 (x + 1)
  have c := c_iadd (x + 1) 1
  have d := rng32 (x + 1 + 1)
  simp only [Int32.lt_iff_toInt_lt, Int32.reduceToInt] at *
  omega
theorem own_ct0 {tt : Nat → Int32} {x : Int32} {g : Nat → Int32} (hz : ¬ x < 0) (h3 : ¬ (3 : Int32) < x) : own_ct tt x x g := ⟨fun q => absurd q (own_ir _), fun q => absurd q (own_ir1 hz h3).1, fun q => absurd q (own_ir1 hz h3).2.1⟩
theorem own_ct1 {tt : Nat → Int32} {x : Int32} {g : Nat → Int32} (hz : ¬ x < 0) (h3 : ¬ (3 : Int32) < x) (w0 : own_W (tt x.toNatClampNeg)) : own_ct tt x (x + (1 : Int32)) (own_up g 0 (own_a (tt x.toNatClampNeg))) := ⟨fun _ => ⟨own_aW w0, w0⟩, fun q => absurd q (own_ir _), fun q => absurd q (own_ir1 hz h3).2.2⟩
theorem own_ct2 {tt : Nat → Int32} {x : Int32} {g : Nat → Int32} (w0 : own_W (tt x.toNatClampNeg)) (w1 : own_W (tt (x + (1 : Int32)).toNatClampNeg)) : own_ct tt x ((x + (1 : Int32)) + (1 : Int32)) (own_up (own_up g 0 (own_a (tt x.toNatClampNeg))) 1 (own_a (tt (x + (1 : Int32)).toNatClampNeg))) := ⟨fun _ => ⟨own_aW w0, w0⟩, fun _ => ⟨own_aW w1, w1⟩, fun q => absurd q (own_ir _)⟩
theorem own_ct3 {tt : Nat → Int32} {x : Int32} {g : Nat → Int32} (w0 : own_W (tt x.toNatClampNeg)) (w1 : own_W (tt (x + (1 : Int32)).toNatClampNeg)) (w2 : own_W (tt ((x + (1 : Int32)) + (1 : Int32)).toNatClampNeg)) : own_ct tt x (((x + (1 : Int32)) + (1 : Int32)) + (1 : Int32)) (own_up (own_up (own_up g 0 (own_a (tt x.toNatClampNeg))) 1 (own_a (tt (x + (1 : Int32)).toNatClampNeg))) 2 (own_a (tt ((x + (1 : Int32)) + (1 : Int32)).toNatClampNeg))) := ⟨fun _ => ⟨own_aW w0, w0⟩, fun _ => ⟨own_aW w1, w1⟩, fun _ => ⟨own_aW w2, w2⟩⟩
theorem own_le3 {x n : Int32} (h : ¬ n < x) (h3 : ¬ (3 : Int32) < n) : ¬ (3 : Int32) < x := by simp only [Int32.lt_iff_toInt_lt, Int32.reduceToInt] at *; omega
theorem own_add0 (x : Int32) : x + (0 : Int32) = x := by simp
theorem own_add2 (x : Int32) : x + (2 : Int32) = (x + (1 : Int32)) + (1 : Int32) := by rw [Int32.add_assoc]; rfl
theorem own_and127 (y : Int32) : 0 ≤ (y &&& (127 : Int32)).toInt ∧ (y &&& (127 : Int32)).toInt ≤ 127 := by
  have a := c_and y 127 (by decide)
  simp only [Int32.reduceToInt] at a; exact a
theorem own_i2c (y : Int32) : (y &&& (127 : Int32)).toUInt32.toUInt16.toUInt32.toInt32 = y &&& (127 : Int32) := by
  have a := own_and127 y
  have b := c_i2c (y &&& 127)
  rw [← Int32.toInt_inj]; omega
theorem own_ncC (y : Int32) : nar .char (y &&& (127 : Int32)) = y &&& (127 : Int32) := own_i2c y
theorem own_fitC (y : Int32) : fits .char (.int (y &&& (127 : Int32))) = true := by rw [← own_ncC]; exact fits_nar_char _
def own_tt (a b c : Int32) (i : Nat) : Int32 := if i = 0 then a &&& (127 : Int32) else if i = 1 then b &&& (127 : Int32) else c &&& (127 : Int32)
theorem own_ttR (a b c : Int32) (i : Nat) : ¬ own_tt a b c i < 0 ∧ own_tt a b c i < (128 : Int32) := by
  have h : ∀ y : Int32, ¬ (y &&& (127 : Int32)) < 0 ∧ (y &&& (127 : Int32)) < (128 : Int32) := fun y => by
    have a := own_and127 y
    simp only [Int32.lt_iff_toInt_lt, Int32.reduceToInt]; omega
  unfold own_tt
  split
  · exact h a
  · split
    · exact h b
    · exact h c
theorem own_ltt3 (a b c : Int32) : ∀ j, j < (3 : Int32).toNatClampNeg → ([.int (a &&& (127 : Int32)), .int (b &&& (127 : Int32)), .int (c &&& (127 : Int32))] : List Value).getD j (.int (0 : Int32)) = .int (own_tt a b c j) := by
  intro j hj
  have hj' : j < 3 := hj
  match j, hj' with
  | 0, _ => rfl
  | 1, _ => rfl
  | 2, _ => rfl
def own_pre (i : Nat) : Int32 := if i = 0 then 81 else if i = 1 then 57 else if i = 2 then 122 else 90
theorem own_preR (i : Nat) : ¬ own_pre i < 0 ∧ own_pre i < (128 : Int32) := by
  unfold own_pre
  split
  · decide
  · split
    · decide
    · split <;> decide
theorem own_lpre : ∀ j, j < (4 : Int32).toNatClampNeg → ([.int (81 : Int32), .int (57 : Int32), .int (122 : Int32), .int (90 : Int32)] : List Value).getD j (.int (0 : Int32)) = .int (own_pre j) := by
  intro j hj
  have hj' : j < 4 := hj
  match j, hj' with
  | 0, _ => rfl
  | 1, _ => rfl
  | 2, _ => rfl
  | 3, _ => rfl
def own_mn (x y : Int32) : Int32 := if y < x then y else x
def own_mx (x y : Int32) : Int32 := if x < y then y else x
theorem own_mm {x y f n : Int32} (hx : 0 ≤ x.toInt ∧ x.toInt ≤ 3) (hy : 0 ≤ y.toInt ∧ y.toInt ≤ 3) (hf : f = own_mn x y) (hn : n = own_mx x y) : ¬ f < 0 ∧ ¬ n < f ∧ ¬ (3 : Int32) < n := by
  subst hf hn
  unfold own_mn own_mx
  simp only [Int32.lt_iff_toInt_lt, Int32.reduceToInt]
  split <;> split <;> omega
theorem own_a3 (y : Int32) : 0 ≤ (y &&& (3 : Int32)).toInt ∧ (y &&& (3 : Int32)).toInt ≤ 3 := by
  have a := c_and y 3 (by decide)
  simp only [Int32.reduceToInt] at a; exact a
theorem own_len0 {tt : Nat → Int32} {n s e : Int32} (h : s = n) (he : e = own_en tt n (own_en tt n (own_en tt n s))) : e - s = (0 : Int32) := by
  have q : own_en tt n s = s := by unfold own_en; rw [if_neg (fun z => own_ltne z.1 h)]
  rw [he, q, q, q]; exact (own_d0 s).symm
theorem own_ore {args : Array Value} {s : State} {idx : List Nat} {c d : Jvm.Cond} (h : (Jvm.Cond.or c d).value args s none s idx = some true) : c.value args s none s idx = some true ∨ d.value args s none s idx = some true := by
  simp only [Cond.value] at h
  cases hc : c.value args s none s idx with
  | none => simp [hc] at h
  | some x =>
    cases x
    · right; simpa [hc] using h
    · left; rfl
theorem own_le1 {args : Array Value} {s : State} {idx : List Nat} {k j : Int32} (hi : (Term.index 0).eval args s none idx s = some (.int j)) (h : (Jvm.Cond.le (.int k) (.index 0)).value args s none s idx = some true) : k ≤ j := by
  have e : (Term.int k).eval args s none idx s = some (.int k) := rfl
  simp only [Cond.value, hi, e] at h
  simpa using h
theorem own_lt1 {args : Array Value} {s : State} {idx : List Nat} {k j : Int32} (hi : (Term.index 0).eval args s none idx s = some (.int j)) (h : (Jvm.Cond.lt (.index 0) (.int k)).value args s none s idx = some true) : j < k := by
  have e : (Term.int k).eval args s none idx s = some (.int k) := rfl
  simp only [Cond.value, hi, e] at h
  simpa using h
theorem own_eq1 {args : Array Value} {s : State} {idx : List Nat} {t u : Term} {x : Int32} (hu : u.eval args s none idx s = some (.int x)) (h : (Jvm.Cond.eq t u).value args s none s idx = some true) : t.eval args s none idx s = some (.int x) := by
  simp only [Cond.value, hu] at h
  cases ht : t.eval args s none idx s with
  | none => simp [ht] at h
  | some y => cases y <;> simp [ht] at h ⊢; exact h
theorem own_eqL {args : Array Value} {s : State} {idx : List Nat} {t : Term} {j : Int32} (hi : (Term.index 0).eval args s none idx s = some (.int j)) (h : (Jvm.Cond.eq (.op1 .i2l t) (.op2 .ladd (.op1 .i2l (.index 0)) (.long 32))).value args s none s idx = some true) : ∃ x : Int32, t.eval args s none idx s = some (.int x) ∧ x.toInt64 = j.toInt64 + 32 := by
  have e1 : (Term.op2 .ladd (.op1 .i2l (.index 0)) (.long 32)).eval args s none idx s = some (.long (j.toInt64 + 32)) := by
    show ((Term.op1 .i2l (.index 0)).eval args s none idx s).bind (fun a => ((Term.long 32).eval args s none idx s).bind (fun b => Binary.apply .ladd a b)) = _
    have e2 : (Term.op1 .i2l (.index 0)).eval args s none idx s = some (.long j.toInt64) := by
      show ((Term.index 0).eval args s none idx s).bind (fun a => Unary.apply .i2l a) = _
      rw [hi]; rfl
    rw [e2]; rfl
  have e3 : (Term.op1 .i2l t).eval args s none idx s = (t.eval args s none idx s).bind (fun a => Unary.apply .i2l a) := rfl
  simp only [Cond.value, e1, e3] at h
  cases ht : t.eval args s none idx s with
  | none => simp [ht] at h
  | some y =>
    cases y with
    | int x => exact ⟨x, rfl, by simpa [ht, Unary.apply] using h⟩
    | _ => simp [ht, Unary.apply] at h
theorem own_x32 {x j : Int32} (h : x.toInt64 = j.toInt64 + 32) (hj : 0 ≤ j.toInt ∧ j.toInt < 128) : x = j + 32 := by
  have a := congrArg Int64.toInt h
  have b := c_ladd j.toInt64 32
  have c := rng64 (j.toInt64 + 32)
  have d := c_iadd j 32
  have e := rng32 (j + 32)
  have f := rng32 x
  rw [Int32.toInt_toInt64] at a b
  simp only [Int32.reduceToInt, Int64.reduceToInt] at *
  rw [← Int32.toInt_inj]; omega
theorem own_tab {args : Array Value} {s : State} {T : Term} {a : Addr} {cl : Cell} (A : Arr s s.heap a cl .byte) (ev : T.eval args s none [] s = some (.ref a)) (evi : ∀ i, T.eval args s none [i] s = some (.ref a)) (hs : cl.slots.size = 128)
    (h1 : (Jvm.Cond.all T (.or (.le (.int 48) (.index 0)) (.eq (.elem T (.index 0)) (.int 0)))).value args s none s [] = some true)
    (h2 : (Jvm.Cond.all T (.or (.lt (.index 0) (.int 48)) (.or (.le (.int 58) (.index 0)) (.eq (.elem T (.index 0)) (.index 0))))).value args s none s [] = some true)
    (h3 : (Jvm.Cond.all T (.or (.lt (.index 0) (.int 58)) (.or (.le (.int 65) (.index 0)) (.eq (.elem T (.index 0)) (.int 0))))).value args s none s [] = some true)
    (h4 : (Jvm.Cond.all T (.or (.lt (.index 0) (.int 65)) (.or (.le (.int 91) (.index 0)) (.eq (.op1 .i2l (.elem T (.index 0))) (.op2 .ladd (.op1 .i2l (.index 0)) (.long 32)))))).value args s none s [] = some true)
    (h5 : (Jvm.Cond.all T (.or (.lt (.index 0) (.int 91)) (.or (.le (.int 97) (.index 0)) (.eq (.elem T (.index 0)) (.int 0))))).value args s none s [] = some true)
    (h6 : (Jvm.Cond.all T (.or (.lt (.index 0) (.int 97)) (.or (.le (.int 123) (.index 0)) (.eq (.elem T (.index 0)) (.index 0))))).value args s none s [] = some true)
    (h7 : (Jvm.Cond.all T (.or (.lt (.index 0) (.int 123)) (.eq (.elem T (.index 0)) (.int 0)))).value args s none s [] = some true)
    {j : Int32} (hj : ¬ j < 0) (hj' : j.toNatClampNeg < 128) : cl.slots[j.toNatClampNeg]? = some (.int (own_a j)) := by
  have hl : j.toNatClampNeg < cl.slots.size := by rw [hs]; exact hj'
  have fin := A.fin (Vm.Alike.refl _)
  have hi : (Term.index 0).eval args s none [j.toNatClampNeg] s = some (.int j) := idx_at hj
  have el : ∀ v, (Term.elem T (.index 0)).eval args s none [j.toNatClampNeg] s = some v → cl.slots[j.toNatClampNeg]? = some v := fun v h => (elem_in h (evi _) hi A.1).2
  have q1 := own_ore (Cond.all_elim ev fin h1 _ hl)
  have q2 := own_ore (Cond.all_elim ev fin h2 _ hl)
  have q3 := own_ore (Cond.all_elim ev fin h3 _ hl)
  have q4 := own_ore (Cond.all_elim ev fin h4 _ hl)
  have q5 := own_ore (Cond.all_elim ev fin h5 _ hl)
  have q6 := own_ore (Cond.all_elim ev fin h6 _ hl)
  have q7 := own_ore (Cond.all_elim ev fin h7 _ hl)
  have nj := nat_of hj
  have int0 : ∀ k : Int32, (Term.int k).eval args s none [j.toNatClampNeg] s = some (.int k) := fun _ => rfl
  have LE : ∀ {k : Int32}, (Jvm.Cond.le (.int k) (.index 0)).value args s none s [j.toNatClampNeg] = some true → k.toInt ≤ j.toInt := fun h => Int32.le_iff_toInt_le.mp (own_le1 hi h)
  have LT : ∀ {k : Int32}, (Jvm.Cond.lt (.index 0) (.int k)).value args s none s [j.toNatClampNeg] = some true → j.toInt < k.toInt := fun h => Int32.lt_iff_toInt_lt.mp (own_lt1 hi h)
  have reg : j.toInt < 48 ∨ (48 ≤ j.toInt ∧ j.toInt < 58) ∨ (58 ≤ j.toInt ∧ j.toInt < 65) ∨ (65 ≤ j.toInt ∧ j.toInt < 91) ∨ (91 ≤ j.toInt ∧ j.toInt < 97) ∨ (97 ≤ j.toInt ∧ j.toInt < 123) ∨ 123 ≤ j.toInt := by omega
  have zero : ¬ own_W j → (Jvm.Cond.eq (.elem T (.index 0)) (.int 0)).value args s none s [j.toNatClampNeg] = some true → cl.slots[j.toNatClampNeg]? = some (.int (own_a j)) := fun hW h => by rw [own_a0 hW]; exact el _ (own_eq1 (int0 0) h)
  have same : own_W j → ¬ (65 ≤ j.toInt ∧ j.toInt ≤ 90) → (Jvm.Cond.eq (.elem T (.index 0)) (.index 0)).value args s none s [j.toNatClampNeg] = some true → cl.slots[j.toNatClampNeg]? = some (.int (own_a j)) := fun hW hN h => by rw [own_aW hW, own_lowN j hN]; exact el _ (own_eq1 hi h)
  rcases reg with r | r | r | r | r | r | r
  · rcases q1 with q | q
    · have := LE q; simp only [Int32.reduceToInt] at this; omega
    · exact zero (by rw [own_Wi]; omega) q
  · rcases q2 with q | q
    · have := LT q; simp only [Int32.reduceToInt] at this; omega
    · rcases own_ore q with q | q
      · have := LE q; simp only [Int32.reduceToInt] at this; omega
      · exact same (by rw [own_Wi]; omega) (by omega) q
  · rcases q3 with q | q
    · have := LT q; simp only [Int32.reduceToInt] at this; omega
    · rcases own_ore q with q | q
      · have := LE q; simp only [Int32.reduceToInt] at this; omega
      · exact zero (by rw [own_Wi]; omega) q
  · rcases q4 with q | q
    · have := LT q; simp only [Int32.reduceToInt] at this; omega
    · rcases own_ore q with q | q
      · have := LE q; simp only [Int32.reduceToInt] at this; omega
      · obtain ⟨x, e1, e2⟩ := own_eqL hi q
        have hx := own_x32 e2 (by omega)
        rw [own_aW (by rw [own_Wi]; omega), (own_lowU j (by omega)).1, ← hx]; exact el _ e1
  · rcases q5 with q | q
    · have := LT q; simp only [Int32.reduceToInt] at this; omega
    · rcases own_ore q with q | q
      · have := LE q; simp only [Int32.reduceToInt] at this; omega
      · exact zero (by rw [own_Wi]; omega) q
  · rcases q6 with q | q
    · have := LT q; simp only [Int32.reduceToInt] at this; omega
    · rcases own_ore q with q | q
      · have := LE q; simp only [Int32.reduceToInt] at this; omega
      · exact same (by rw [own_Wi]; omega) (by omega) q
  · rcases q7 with q | q
    · have := LT q; simp only [Int32.reduceToInt] at this; omega
    · exact zero (by rw [own_Wi]; omega) q
theorem own_tabA {s : State} {a : Addr} {cl : Cell} (A : Arr s s.heap a cl .byte) (hs : cl.slots.size = 128) (H : ∀ {j : Int32}, ¬ j < 0 → j.toNatClampNeg < 128 → cl.slots[j.toNatClampNeg]? = some (.int (own_a j))) : Af s s.heap a cl.cls .byte (128 : Int32) (fun i => .int (own_a i.toInt32)) := by
  refine ⟨cl, A, rfl, hs, by decide, fun i hi => ?_⟩
  have hi' : i < 128 := hi
  have e := len_toInt (n := i) (by omega)
  have hn : ¬ i.toInt32 < 0 := by rw [Int32.lt_iff_toInt_lt, e]; simp only [Int32.reduceToInt]; omega
  have e2 : i.toInt32.toNatClampNeg = i := by have := nat_of hn; rw [e] at this; exact (Int.ofNat.inj this).symm
  have q := H hn (by rw [e2]; exact hi')
  rw [e2] at q; exact q
set_option maxRecDepth 65536 in
set_option maxHeartbeats 40000000 in
theorem rmMN (l : Launch) (Z : State) (a0 : Array Value) (hw : ∀ d ∈ tables_1, d.before a0 Z = true) (ws : List Jvm.Cond) (x1 y1 r1 : Int32) (h0 : Heap) (n0 : Nat) (Z0 : n0 ≤ h0.size) (hr0 : r1 = own_mn x1 y1) :
    MetFree l (⟨"java/lang/Math", "min", "(II)I"⟩ : MethodName) (head1 (Jvm.Cond.code (⟨"java/lang/Math", "min", "(II)I"⟩ : MethodName) jdk_29_method_69_code 2 (some .int) :: ws) ({ frames := 0, cells := 0, slots := 0, locals := 0 } : Room)) (fun aa UU => aa = #[(.int x1), (.int y1)] ∧ Z.Warmed39 UU.vm ∧ UU.heap = h0) (fun _ _ _ _ _ => True) (fun _ UU oo U' => ∃ v L, oo = .returned v ∧ Qr (.int r1) h0 n0 v U'.heap L ∧ FrameEnd UU oo U' L ({ frames := 0, cells := 0, slots := 0, locals := 0 } : Room).cells ({ frames := 0, cells := 0, slots := 0, locals := 0 } : Room).slots) := by
  refine MetFree.of_bodySF (Jvm.Free.JP.mathPlain rfl (by decide +kernel)) hisR ?_
  intro p e s m args below meth c s₁ Bd hml0 hP hK
  obtain ⟨rfl, hZ, hh⟩ := hP
  have hx := Bd.exec
  have hby := Bd.bytes
  have hml : c.maxLocals = 2 := hml0
  have hown : s.vm.findClass "java/lang/Math" = some m.cls := findClass_of_methodNamed Bd.named
  have hnm := (name_of_methodNamed Bd.named Bd.method).1
  have X0 : Stand p l e ({ frames := 0, cells := 0, slots := 0, locals := 0 } : Room) s m #[(.int x1), (.int y1)] below meth c s₁ [] 0 0 := Stand.of_body Bd
  have e0 : s₁.heap = h0 := by rw [← hh, Bd.state]; rfl
  have N0 := Fr.nil n0
  obtain ⟨A0, hA0⟩ : ∃ A, A = s₁.setTop (entryFrame m #[(.int x1), (.int y1)] 2) := ⟨_, rfl⟩
  have G0 : Go p e below A0 (s₁.setTop (mkF m 0 #[.val (.int x1), .val (.int y1)] [])) := fun tq kq => by rw [hA0]; exact castTop (ef_rmMN m x1 y1) kq
  have G1 : Go p e below A0 (s₁.setTop (mkF m 2 #[.val (.int x1), .val (.int y1)] [(.int y1), (.int x1)])) := fun tq kq => G0 tq (by
    refine XS.iloadN X0.here hx rfl (hb hby d1_0) rfl ?_
    show Steps p.tables e below (s₁.setTop (mkF m 1 #[.val (.int x1), .val (.int y1)] [(.int x1)])) _
    refine XS.iloadN X0.here hx rfl (hb hby d1_1) rfl ?_
    show Steps p.tables e below (s₁.setTop (mkF m 2 #[.val (.int x1), .val (.int y1)] [(.int y1), (.int x1)])) _
    exact kq)
  by_cases hc2 : y1 < x1
  · have G3 : Go p e below A0 (s₁.setTop (mkF m 10 #[.val (.int x1), .val (.int y1)] [(.int y1)])) := fun tq kq => G1 tq (by
      refine XS.icmpYes X0.here hx rfl (pc0 := 2) (pc' := 9) rfl (hb hby d1_2) rfl (tlt hc2).2.2.1 (by decide) (by decide) ?_
      show Steps p.tables e below (s₁.setTop (mkF m 9 #[.val (.int x1), .val (.int y1)] [])) _
      refine XS.iloadN X0.here hx rfl (hb hby d1_9) rfl ?_
      show Steps p.tables e below (s₁.setTop (mkF m 10 #[.val (.int x1), .val (.int y1)] [(.int y1)])) _
      exact kq)
    obtain ⟨fs, hr, hrun, hended, hW, hsame⟩ := X0.leave (v := some (.int y1)) (fun h => by rw [Bd.returns] at h; cases h)
    refine ⟨_, _, (by rw [← hA0]; exact G3 _ (retOut X0 hx (t := .int) Bd.returns rfl (Or.inl ⟨rfl, Or.inl rfl, _, rfl⟩) (hb hby d1_10) hr)), hrun, hended, _, _, rfl, ?_, ⟨_, rfl⟩, hW, hsame.mono (by decide) (by decide)⟩
    exact ⟨(by rw [hr0, show own_mn x1 y1 = y1 from by simp only [own_b, own_mn, hc2, not_true_eq_false, not_false_eq_true, if_true, if_false, or_true, true_or, or_false, false_or, and_true, true_and, and_false, false_and, and_self, or_self]]), N0, e0⟩
  · have G4 : Go p e below A0 (s₁.setTop (mkF m 10 #[.val (.int x1), .val (.int y1)] [(.int x1)])) := fun tq kq => G1 tq (by
      refine XS.icmpNo X0.here hx rfl (hb hby d1_2) rfl (flt hc2).2.2.1 ?_
      show Steps p.tables e below (s₁.setTop (mkF m 5 #[.val (.int x1), .val (.int y1)] [])) _
      refine XS.iloadN X0.here hx rfl (hb hby d1_5) rfl ?_
      show Steps p.tables e below (s₁.setTop (mkF m 6 #[.val (.int x1), .val (.int y1)] [(.int x1)])) _
      refine XS.goto X0.here hx rfl (pc0 := 6) (pc' := 10) rfl (hb hby d1_6) (by decide) (by decide) ?_
      show Steps p.tables e below (s₁.setTop (mkF m 10 #[.val (.int x1), .val (.int y1)] [(.int x1)])) _
      exact kq)
    obtain ⟨fs, hr, hrun, hended, hW, hsame⟩ := X0.leave (v := some (.int x1)) (fun h => by rw [Bd.returns] at h; cases h)
    refine ⟨_, _, (by rw [← hA0]; exact G4 _ (retOut X0 hx (t := .int) Bd.returns rfl (Or.inl ⟨rfl, Or.inl rfl, _, rfl⟩) (hb hby d1_10) hr)), hrun, hended, _, _, rfl, ?_, ⟨_, rfl⟩, hW, hsame.mono (by decide) (by decide)⟩
    exact ⟨(by rw [hr0, show own_mn x1 y1 = x1 from by simp only [own_b, own_mn, hc2, not_true_eq_false, not_false_eq_true, if_true, if_false, or_true, true_or, or_false, false_or, and_true, true_and, and_false, false_and, and_self, or_self]]), N0, e0⟩
set_option maxRecDepth 65536 in
set_option maxHeartbeats 40000000 in
theorem rmMX (l : Launch) (Z : State) (a0 : Array Value) (hw : ∀ d ∈ tables_1, d.before a0 Z = true) (ws : List Jvm.Cond) (x1 y1 r1 : Int32) (h0 : Heap) (n0 : Nat) (Z0 : n0 ≤ h0.size) (hr0 : r1 = own_mx x1 y1) :
    MetFree l (⟨"java/lang/Math", "max", "(II)I"⟩ : MethodName) (head1 (Jvm.Cond.code (⟨"java/lang/Math", "max", "(II)I"⟩ : MethodName) jdk_29_method_65_code 2 (some .int) :: ws) ({ frames := 0, cells := 0, slots := 0, locals := 0 } : Room)) (fun aa UU => aa = #[(.int x1), (.int y1)] ∧ Z.Warmed39 UU.vm ∧ UU.heap = h0) (fun _ _ _ _ _ => True) (fun _ UU oo U' => ∃ v L, oo = .returned v ∧ Qr (.int r1) h0 n0 v U'.heap L ∧ FrameEnd UU oo U' L ({ frames := 0, cells := 0, slots := 0, locals := 0 } : Room).cells ({ frames := 0, cells := 0, slots := 0, locals := 0 } : Room).slots) := by
  refine MetFree.of_bodySF (Jvm.Free.JP.mathPlain rfl (by decide +kernel)) hisR ?_
  intro p e s m args below meth c s₁ Bd hml0 hP hK
  obtain ⟨rfl, hZ, hh⟩ := hP
  have hx := Bd.exec
  have hby := Bd.bytes
  have hml : c.maxLocals = 2 := hml0
  have hown : s.vm.findClass "java/lang/Math" = some m.cls := findClass_of_methodNamed Bd.named
  have hnm := (name_of_methodNamed Bd.named Bd.method).1
  have X0 : Stand p l e ({ frames := 0, cells := 0, slots := 0, locals := 0 } : Room) s m #[(.int x1), (.int y1)] below meth c s₁ [] 0 0 := Stand.of_body Bd
  have e0 : s₁.heap = h0 := by rw [← hh, Bd.state]; rfl
  have N0 := Fr.nil n0
  obtain ⟨A0, hA0⟩ : ∃ A, A = s₁.setTop (entryFrame m #[(.int x1), (.int y1)] 2) := ⟨_, rfl⟩
  have G0 : Go p e below A0 (s₁.setTop (mkF m 0 #[.val (.int x1), .val (.int y1)] [])) := fun tq kq => by rw [hA0]; exact castTop (ef_rmMX m x1 y1) kq
  have G5 : Go p e below A0 (s₁.setTop (mkF m 2 #[.val (.int x1), .val (.int y1)] [(.int y1), (.int x1)])) := fun tq kq => G0 tq (by
    refine XS.iloadN X0.here hx rfl (hb hby d2_0) rfl ?_
    show Steps p.tables e below (s₁.setTop (mkF m 1 #[.val (.int x1), .val (.int y1)] [(.int x1)])) _
    refine XS.iloadN X0.here hx rfl (hb hby d2_1) rfl ?_
    show Steps p.tables e below (s₁.setTop (mkF m 2 #[.val (.int x1), .val (.int y1)] [(.int y1), (.int x1)])) _
    exact kq)
  by_cases hc6 : x1 < y1
  · have G7 : Go p e below A0 (s₁.setTop (mkF m 10 #[.val (.int x1), .val (.int y1)] [(.int y1)])) := fun tq kq => G5 tq (by
      refine XS.icmpYes X0.here hx rfl (pc0 := 2) (pc' := 9) rfl (hb hby d2_2) rfl (tlt hc6).1 (by decide) (by decide) ?_
      show Steps p.tables e below (s₁.setTop (mkF m 9 #[.val (.int x1), .val (.int y1)] [])) _
      refine XS.iloadN X0.here hx rfl (hb hby d2_9) rfl ?_
      show Steps p.tables e below (s₁.setTop (mkF m 10 #[.val (.int x1), .val (.int y1)] [(.int y1)])) _
      exact kq)
    obtain ⟨fs, hr, hrun, hended, hW, hsame⟩ := X0.leave (v := some (.int y1)) (fun h => by rw [Bd.returns] at h; cases h)
    refine ⟨_, _, (by rw [← hA0]; exact G7 _ (retOut X0 hx (t := .int) Bd.returns rfl (Or.inl ⟨rfl, Or.inl rfl, _, rfl⟩) (hb hby d2_10) hr)), hrun, hended, _, _, rfl, ?_, ⟨_, rfl⟩, hW, hsame.mono (by decide) (by decide)⟩
    exact ⟨(by rw [hr0, show own_mx x1 y1 = y1 from by simp only [own_b, own_mx, hc6, not_true_eq_false, not_false_eq_true, if_true, if_false, or_true, true_or, or_false, false_or, and_true, true_and, and_false, false_and, and_self, or_self]]), N0, e0⟩
  · have G8 : Go p e below A0 (s₁.setTop (mkF m 10 #[.val (.int x1), .val (.int y1)] [(.int x1)])) := fun tq kq => G5 tq (by
      refine XS.icmpNo X0.here hx rfl (hb hby d2_2) rfl (flt hc6).1 ?_
      show Steps p.tables e below (s₁.setTop (mkF m 5 #[.val (.int x1), .val (.int y1)] [])) _
      refine XS.iloadN X0.here hx rfl (hb hby d2_5) rfl ?_
      show Steps p.tables e below (s₁.setTop (mkF m 6 #[.val (.int x1), .val (.int y1)] [(.int x1)])) _
      refine XS.goto X0.here hx rfl (pc0 := 6) (pc' := 10) rfl (hb hby d2_6) (by decide) (by decide) ?_
      show Steps p.tables e below (s₁.setTop (mkF m 10 #[.val (.int x1), .val (.int y1)] [(.int x1)])) _
      exact kq)
    obtain ⟨fs, hr, hrun, hended, hW, hsame⟩ := X0.leave (v := some (.int x1)) (fun h => by rw [Bd.returns] at h; cases h)
    refine ⟨_, _, (by rw [← hA0]; exact G8 _ (retOut X0 hx (t := .int) Bd.returns rfl (Or.inl ⟨rfl, Or.inl rfl, _, rfl⟩) (hb hby d2_10) hr)), hrun, hended, _, _, rfl, ?_, ⟨_, rfl⟩, hW, hsame.mono (by decide) (by decide)⟩
    exact ⟨(by rw [hr0, show own_mx x1 y1 = x1 from by simp only [own_b, own_mx, hc6, not_true_eq_false, not_false_eq_true, if_true, if_false, or_true, true_or, or_false, false_or, and_true, true_and, and_false, false_and, and_self, or_self]]), N0, e0⟩
set_option maxRecDepth 65536 in
set_option maxHeartbeats 40000000 in
theorem rmIW (l : Launch) (Z : State) (a0 : Array Value) (hw : ∀ d ∈ tables_1, d.before a0 Z = true) (ws : List Jvm.Cond) (cc : Int32) (h0 : Heap) (n0 : Nat) (Z0 : n0 ≤ h0.size) :
    MetFree l (⟨"com/example/subtree/subtree/index/PlainWordsResetPinLaw", "isWord", "(C)Z"⟩ : MethodName) (head1 (Jvm.Cond.code (⟨"com/example/subtree/subtree/index/PlainWordsResetPinLaw", "isWord", "(C)Z"⟩ : MethodName) method_3_code 1 (some .boolean) :: ws) ({ frames := 0, cells := 0, slots := 0, locals := 0 } : Room)) (fun aa UU => aa = #[(.int cc)] ∧ Z.Warmed39 UU.vm ∧ UU.heap = h0) (fun _ _ _ _ _ => True) (fun _ UU oo U' => ∃ v L, oo = .returned v ∧ Qr (.int (own_b (own_W cc))) h0 n0 v U'.heap L ∧ FrameEnd UU oo U' L ({ frames := 0, cells := 0, slots := 0, locals := 0 } : Room).cells ({ frames := 0, cells := 0, slots := 0, locals := 0 } : Room).slots) := by
  refine MetFree.of_bodySF (plainFor_of_name pn_0) hisR ?_
  intro p e s m args below meth c s₁ Bd hml0 hP hK
  obtain ⟨rfl, hZ, hh⟩ := hP
  have hx := Bd.exec
  have hby := Bd.bytes
  have hml : c.maxLocals = 1 := hml0
  have hown : s.vm.findClass "com/example/subtree/subtree/index/PlainWordsResetPinLaw" = some m.cls := findClass_of_methodNamed Bd.named
  have hnm := (name_of_methodNamed Bd.named Bd.method).1
  have X0 : Stand p l e ({ frames := 0, cells := 0, slots := 0, locals := 0 } : Room) s m #[(.int cc)] below meth c s₁ [] 0 0 := Stand.of_body Bd
  have e0 : s₁.heap = h0 := by rw [← hh, Bd.state]; rfl
  have N0 := Fr.nil n0
  obtain ⟨A0, hA0⟩ : ∃ A, A = s₁.setTop (entryFrame m #[(.int cc)] 1) := ⟨_, rfl⟩
  have G0 : Go p e below A0 (s₁.setTop (mkF m 0 #[.val (.int cc)] [])) := fun tq kq => by rw [hA0]; exact castTop (ef_rmIW m cc) kq
  have G9 : Go p e below A0 (s₁.setTop (mkF m 3 #[.val (.int cc)] [(.int (48 : Int32)), (.int cc)])) := fun tq kq => G0 tq (by
    refine XS.iloadN X0.here hx rfl (hb hby d8_0) rfl ?_
    show Steps p.tables e below (s₁.setTop (mkF m 1 #[.val (.int cc)] [(.int cc)])) _
    refine XS.bipush X0.here hx rfl (hb hby d8_1) ?_
    show Steps p.tables e below (s₁.setTop (mkF m 3 #[.val (.int cc)] [(.int (48 : Int32)), (.int cc)])) _
    exact kq)
  by_cases hc10 : cc < (48 : Int32)
  · have G11 : Go p e below A0 (s₁.setTop (mkF m 17 #[.val (.int cc)] [(.int (97 : Int32)), (.int cc)])) := fun tq kq => G9 tq (by
      refine XS.icmpYes X0.here hx rfl (pc0 := 3) (pc' := 14) rfl (hb hby d8_3) rfl (tlt hc10).1 (by decide) (by decide) ?_
      show Steps p.tables e below (s₁.setTop (mkF m 14 #[.val (.int cc)] [])) _
      refine XS.iloadN X0.here hx rfl (hb hby d8_14) rfl ?_
      show Steps p.tables e below (s₁.setTop (mkF m 15 #[.val (.int cc)] [(.int cc)])) _
      refine XS.bipush X0.here hx rfl (hb hby d8_15) ?_
      show Steps p.tables e below (s₁.setTop (mkF m 17 #[.val (.int cc)] [(.int (97 : Int32)), (.int cc)])) _
      exact kq)
    by_cases hc12 : cc < (97 : Int32)
    · have G13 : Go p e below A0 (s₁.setTop (mkF m 31 #[.val (.int cc)] [(.int (65 : Int32)), (.int cc)])) := fun tq kq => G11 tq (by
        refine XS.icmpYes X0.here hx rfl (pc0 := 17) (pc' := 28) rfl (hb hby d8_17) rfl (tlt hc12).1 (by decide) (by decide) ?_
        show Steps p.tables e below (s₁.setTop (mkF m 28 #[.val (.int cc)] [])) _
        refine XS.iloadN X0.here hx rfl (hb hby d8_28) rfl ?_
        show Steps p.tables e below (s₁.setTop (mkF m 29 #[.val (.int cc)] [(.int cc)])) _
        refine XS.bipush X0.here hx rfl (hb hby d8_29) ?_
        show Steps p.tables e below (s₁.setTop (mkF m 31 #[.val (.int cc)] [(.int (65 : Int32)), (.int cc)])) _
        exact kq)
      by_cases hc14 : cc < (65 : Int32)
      · have G15 : Go p e below A0 (s₁.setTop (mkF m 45 #[.val (.int cc)] [(.int (0 : Int32))])) := fun tq kq => G13 tq (by
          refine XS.icmpYes X0.here hx rfl (pc0 := 31) (pc' := 44) rfl (hb hby d8_31) rfl (tlt hc14).1 (by decide) (by decide) ?_
          show Steps p.tables e below (s₁.setTop (mkF m 44 #[.val (.int cc)] [])) _
          refine XS.iconst X0.here hx rfl (hb hby d8_44) ?_
          show Steps p.tables e below (s₁.setTop (mkF m 45 #[.val (.int cc)] [(.int (0 : Int32))])) _
          exact kq)
        obtain ⟨fs, hr, hrun, hended, hW, hsame⟩ := X0.leave (v := some (.int (nar .boolean (0 : Int32)))) (fun h => by rw [Bd.returns] at h; cases h)
        refine ⟨_, _, (by rw [← hA0]; exact G15 _ (retN X0 hx (t := .boolean) Bd.returns (by simp) (hb hby d8_45) hr)), hrun, hended, _, _, rfl, ?_, ⟨_, rfl⟩, hW, hsame.mono (by decide) (by decide)⟩
        exact ⟨(by rw [show own_b (own_W cc) = (0 : Int32) from by simp only [own_b, own_W, hc10, hc12, hc14, not_true_eq_false, not_false_eq_true, if_true, if_false, or_true, true_or, or_false, false_or, and_true, true_and, and_false, false_and, and_self, or_self]]; rfl), N0, e0⟩
      · have G16 : Go p e below A0 (s₁.setTop (mkF m 37 #[.val (.int cc)] [(.int (90 : Int32)), (.int cc)])) := fun tq kq => G13 tq (by
          refine XS.icmpNo X0.here hx rfl (hb hby d8_31) rfl (flt hc14).1 ?_
          show Steps p.tables e below (s₁.setTop (mkF m 34 #[.val (.int cc)] [])) _
          refine XS.iloadN X0.here hx rfl (hb hby d8_34) rfl ?_
          show Steps p.tables e below (s₁.setTop (mkF m 35 #[.val (.int cc)] [(.int cc)])) _
          refine XS.bipush X0.here hx rfl (hb hby d8_35) ?_
          show Steps p.tables e below (s₁.setTop (mkF m 37 #[.val (.int cc)] [(.int (90 : Int32)), (.int cc)])) _
          exact kq)
        by_cases hc17 : (90 : Int32) < cc
        · have G18 : Go p e below A0 (s₁.setTop (mkF m 45 #[.val (.int cc)] [(.int (0 : Int32))])) := fun tq kq => G16 tq (by
            refine XS.icmpYes X0.here hx rfl (pc0 := 37) (pc' := 44) rfl (hb hby d8_37) rfl (tlt hc17).2.2.1 (by decide) (by decide) ?_
            show Steps p.tables e below (s₁.setTop (mkF m 44 #[.val (.int cc)] [])) _
            refine XS.iconst X0.here hx rfl (hb hby d8_44) ?_
            show Steps p.tables e below (s₁.setTop (mkF m 45 #[.val (.int cc)] [(.int (0 : Int32))])) _
            exact kq)
          obtain ⟨fs, hr, hrun, hended, hW, hsame⟩ := X0.leave (v := some (.int (nar .boolean (0 : Int32)))) (fun h => by rw [Bd.returns] at h; cases h)
          refine ⟨_, _, (by rw [← hA0]; exact G18 _ (retN X0 hx (t := .boolean) Bd.returns (by simp) (hb hby d8_45) hr)), hrun, hended, _, _, rfl, ?_, ⟨_, rfl⟩, hW, hsame.mono (by decide) (by decide)⟩
          exact ⟨(by rw [show own_b (own_W cc) = (0 : Int32) from by simp only [own_b, own_W, hc10, hc12, hc14, hc17, not_true_eq_false, not_false_eq_true, if_true, if_false, or_true, true_or, or_false, false_or, and_true, true_and, and_false, false_and, and_self, or_self]]; rfl), N0, e0⟩
        · have G19 : Go p e below A0 (s₁.setTop (mkF m 45 #[.val (.int cc)] [(.int (1 : Int32))])) := fun tq kq => G16 tq (by
            refine XS.icmpNo X0.here hx rfl (hb hby d8_37) rfl (flt hc17).2.2.1 ?_
            show Steps p.tables e below (s₁.setTop (mkF m 40 #[.val (.int cc)] [])) _
            refine XS.iconst X0.here hx rfl (hb hby d8_40) ?_
            show Steps p.tables e below (s₁.setTop (mkF m 41 #[.val (.int cc)] [(.int (1 : Int32))])) _
            refine XS.goto X0.here hx rfl (pc0 := 41) (pc' := 45) rfl (hb hby d8_41) (by decide) (by decide) ?_
            show Steps p.tables e below (s₁.setTop (mkF m 45 #[.val (.int cc)] [(.int (1 : Int32))])) _
            exact kq)
          obtain ⟨fs, hr, hrun, hended, hW, hsame⟩ := X0.leave (v := some (.int (nar .boolean (1 : Int32)))) (fun h => by rw [Bd.returns] at h; cases h)
          refine ⟨_, _, (by rw [← hA0]; exact G19 _ (retN X0 hx (t := .boolean) Bd.returns (by simp) (hb hby d8_45) hr)), hrun, hended, _, _, rfl, ?_, ⟨_, rfl⟩, hW, hsame.mono (by decide) (by decide)⟩
          exact ⟨(by rw [show own_b (own_W cc) = (1 : Int32) from by simp only [own_b, own_W, hc10, hc12, hc14, hc17, not_true_eq_false, not_false_eq_true, if_true, if_false, or_true, true_or, or_false, false_or, and_true, true_and, and_false, false_and, and_self, or_self]]; rfl), N0, e0⟩
    · have G20 : Go p e below A0 (s₁.setTop (mkF m 23 #[.val (.int cc)] [(.int (122 : Int32)), (.int cc)])) := fun tq kq => G11 tq (by
        refine XS.icmpNo X0.here hx rfl (hb hby d8_17) rfl (flt hc12).1 ?_
        show Steps p.tables e below (s₁.setTop (mkF m 20 #[.val (.int cc)] [])) _
        refine XS.iloadN X0.here hx rfl (hb hby d8_20) rfl ?_
        show Steps p.tables e below (s₁.setTop (mkF m 21 #[.val (.int cc)] [(.int cc)])) _
        refine XS.bipush X0.here hx rfl (hb hby d8_21) ?_
        show Steps p.tables e below (s₁.setTop (mkF m 23 #[.val (.int cc)] [(.int (122 : Int32)), (.int cc)])) _
        exact kq)
      by_cases hc21 : (122 : Int32) < cc
      · have G22 : Go p e below A0 (s₁.setTop (mkF m 31 #[.val (.int cc)] [(.int (65 : Int32)), (.int cc)])) := fun tq kq => G20 tq (by
          refine XS.icmpYes X0.here hx rfl (pc0 := 23) (pc' := 28) rfl (hb hby d8_23) rfl (tlt hc21).2.2.1 (by decide) (by decide) ?_
          show Steps p.tables e below (s₁.setTop (mkF m 28 #[.val (.int cc)] [])) _
          refine XS.iloadN X0.here hx rfl (hb hby d8_28) rfl ?_
          show Steps p.tables e below (s₁.setTop (mkF m 29 #[.val (.int cc)] [(.int cc)])) _
          refine XS.bipush X0.here hx rfl (hb hby d8_29) ?_
          show Steps p.tables e below (s₁.setTop (mkF m 31 #[.val (.int cc)] [(.int (65 : Int32)), (.int cc)])) _
          exact kq)
        by_cases hc23 : cc < (65 : Int32)
        · have G24 : Go p e below A0 (s₁.setTop (mkF m 45 #[.val (.int cc)] [(.int (0 : Int32))])) := fun tq kq => G22 tq (by
            refine XS.icmpYes X0.here hx rfl (pc0 := 31) (pc' := 44) rfl (hb hby d8_31) rfl (tlt hc23).1 (by decide) (by decide) ?_
            show Steps p.tables e below (s₁.setTop (mkF m 44 #[.val (.int cc)] [])) _
            refine XS.iconst X0.here hx rfl (hb hby d8_44) ?_
            show Steps p.tables e below (s₁.setTop (mkF m 45 #[.val (.int cc)] [(.int (0 : Int32))])) _
            exact kq)
          obtain ⟨fs, hr, hrun, hended, hW, hsame⟩ := X0.leave (v := some (.int (nar .boolean (0 : Int32)))) (fun h => by rw [Bd.returns] at h; cases h)
          refine ⟨_, _, (by rw [← hA0]; exact G24 _ (retN X0 hx (t := .boolean) Bd.returns (by simp) (hb hby d8_45) hr)), hrun, hended, _, _, rfl, ?_, ⟨_, rfl⟩, hW, hsame.mono (by decide) (by decide)⟩
          exact ⟨(by rw [show own_b (own_W cc) = (0 : Int32) from by simp only [own_b, own_W, hc10, hc12, hc21, hc23, not_true_eq_false, not_false_eq_true, if_true, if_false, or_true, true_or, or_false, false_or, and_true, true_and, and_false, false_and, and_self, or_self]]; rfl), N0, e0⟩
        · have G25 : Go p e below A0 (s₁.setTop (mkF m 37 #[.val (.int cc)] [(.int (90 : Int32)), (.int cc)])) := fun tq kq => G22 tq (by
            refine XS.icmpNo X0.here hx rfl (hb hby d8_31) rfl (flt hc23).1 ?_
            show Steps p.tables e below (s₁.setTop (mkF m 34 #[.val (.int cc)] [])) _
            refine XS.iloadN X0.here hx rfl (hb hby d8_34) rfl ?_
            show Steps p.tables e below (s₁.setTop (mkF m 35 #[.val (.int cc)] [(.int cc)])) _
            refine XS.bipush X0.here hx rfl (hb hby d8_35) ?_
            show Steps p.tables e below (s₁.setTop (mkF m 37 #[.val (.int cc)] [(.int (90 : Int32)), (.int cc)])) _
            exact kq)
          by_cases hc26 : (90 : Int32) < cc
          · have G27 : Go p e below A0 (s₁.setTop (mkF m 45 #[.val (.int cc)] [(.int (0 : Int32))])) := fun tq kq => G25 tq (by
              refine XS.icmpYes X0.here hx rfl (pc0 := 37) (pc' := 44) rfl (hb hby d8_37) rfl (tlt hc26).2.2.1 (by decide) (by decide) ?_
              show Steps p.tables e below (s₁.setTop (mkF m 44 #[.val (.int cc)] [])) _
              refine XS.iconst X0.here hx rfl (hb hby d8_44) ?_
              show Steps p.tables e below (s₁.setTop (mkF m 45 #[.val (.int cc)] [(.int (0 : Int32))])) _
              exact kq)
            obtain ⟨fs, hr, hrun, hended, hW, hsame⟩ := X0.leave (v := some (.int (nar .boolean (0 : Int32)))) (fun h => by rw [Bd.returns] at h; cases h)
            refine ⟨_, _, (by rw [← hA0]; exact G27 _ (retN X0 hx (t := .boolean) Bd.returns (by simp) (hb hby d8_45) hr)), hrun, hended, _, _, rfl, ?_, ⟨_, rfl⟩, hW, hsame.mono (by decide) (by decide)⟩
            exact ⟨(by rw [show own_b (own_W cc) = (0 : Int32) from by simp only [own_b, own_W, hc10, hc12, hc21, hc23, hc26, not_true_eq_false, not_false_eq_true, if_true, if_false, or_true, true_or, or_false, false_or, and_true, true_and, and_false, false_and, and_self, or_self]]; rfl), N0, e0⟩
          · have G28 : Go p e below A0 (s₁.setTop (mkF m 45 #[.val (.int cc)] [(.int (1 : Int32))])) := fun tq kq => G25 tq (by
              refine XS.icmpNo X0.here hx rfl (hb hby d8_37) rfl (flt hc26).2.2.1 ?_
              show Steps p.tables e below (s₁.setTop (mkF m 40 #[.val (.int cc)] [])) _
              refine XS.iconst X0.here hx rfl (hb hby d8_40) ?_
              show Steps p.tables e below (s₁.setTop (mkF m 41 #[.val (.int cc)] [(.int (1 : Int32))])) _
              refine XS.goto X0.here hx rfl (pc0 := 41) (pc' := 45) rfl (hb hby d8_41) (by decide) (by decide) ?_
              show Steps p.tables e below (s₁.setTop (mkF m 45 #[.val (.int cc)] [(.int (1 : Int32))])) _
              exact kq)
            obtain ⟨fs, hr, hrun, hended, hW, hsame⟩ := X0.leave (v := some (.int (nar .boolean (1 : Int32)))) (fun h => by rw [Bd.returns] at h; cases h)
            refine ⟨_, _, (by rw [← hA0]; exact G28 _ (retN X0 hx (t := .boolean) Bd.returns (by simp) (hb hby d8_45) hr)), hrun, hended, _, _, rfl, ?_, ⟨_, rfl⟩, hW, hsame.mono (by decide) (by decide)⟩
            exact ⟨(by rw [show own_b (own_W cc) = (1 : Int32) from by simp only [own_b, own_W, hc10, hc12, hc21, hc23, hc26, not_true_eq_false, not_false_eq_true, if_true, if_false, or_true, true_or, or_false, false_or, and_true, true_and, and_false, false_and, and_self, or_self]]; rfl), N0, e0⟩
      · have G29 : Go p e below A0 (s₁.setTop (mkF m 27 #[.val (.int cc)] [(.int (1 : Int32))])) := fun tq kq => G20 tq (by
          refine XS.icmpNo X0.here hx rfl (hb hby d8_23) rfl (flt hc21).2.2.1 ?_
          show Steps p.tables e below (s₁.setTop (mkF m 26 #[.val (.int cc)] [])) _
          refine XS.iconst X0.here hx rfl (hb hby d8_26) ?_
          show Steps p.tables e below (s₁.setTop (mkF m 27 #[.val (.int cc)] [(.int (1 : Int32))])) _
          exact kq)
        obtain ⟨fs, hr, hrun, hended, hW, hsame⟩ := X0.leave (v := some (.int (nar .boolean (1 : Int32)))) (fun h => by rw [Bd.returns] at h; cases h)
        refine ⟨_, _, (by rw [← hA0]; exact G29 _ (retN X0 hx (t := .boolean) Bd.returns (by simp) (hb hby d8_27) hr)), hrun, hended, _, _, rfl, ?_, ⟨_, rfl⟩, hW, hsame.mono (by decide) (by decide)⟩
        exact ⟨(by rw [show own_b (own_W cc) = (1 : Int32) from by simp only [own_b, own_W, hc10, hc12, hc21, not_true_eq_false, not_false_eq_true, if_true, if_false, or_true, true_or, or_false, false_or, and_true, true_and, and_false, false_and, and_self, or_self]]; rfl), N0, e0⟩
  · have G30 : Go p e below A0 (s₁.setTop (mkF m 9 #[.val (.int cc)] [(.int (57 : Int32)), (.int cc)])) := fun tq kq => G9 tq (by
      refine XS.icmpNo X0.here hx rfl (hb hby d8_3) rfl (flt hc10).1 ?_
      show Steps p.tables e below (s₁.setTop (mkF m 6 #[.val (.int cc)] [])) _
      refine XS.iloadN X0.here hx rfl (hb hby d8_6) rfl ?_
      show Steps p.tables e below (s₁.setTop (mkF m 7 #[.val (.int cc)] [(.int cc)])) _
      refine XS.bipush X0.here hx rfl (hb hby d8_7) ?_
      show Steps p.tables e below (s₁.setTop (mkF m 9 #[.val (.int cc)] [(.int (57 : Int32)), (.int cc)])) _
      exact kq)
    by_cases hc31 : (57 : Int32) < cc
    · have G32 : Go p e below A0 (s₁.setTop (mkF m 17 #[.val (.int cc)] [(.int (97 : Int32)), (.int cc)])) := fun tq kq => G30 tq (by
        refine XS.icmpYes X0.here hx rfl (pc0 := 9) (pc' := 14) rfl (hb hby d8_9) rfl (tlt hc31).2.2.1 (by decide) (by decide) ?_
        show Steps p.tables e below (s₁.setTop (mkF m 14 #[.val (.int cc)] [])) _
        refine XS.iloadN X0.here hx rfl (hb hby d8_14) rfl ?_
        show Steps p.tables e below (s₁.setTop (mkF m 15 #[.val (.int cc)] [(.int cc)])) _
        refine XS.bipush X0.here hx rfl (hb hby d8_15) ?_
        show Steps p.tables e below (s₁.setTop (mkF m 17 #[.val (.int cc)] [(.int (97 : Int32)), (.int cc)])) _
        exact kq)
      by_cases hc33 : cc < (97 : Int32)
      · have G34 : Go p e below A0 (s₁.setTop (mkF m 31 #[.val (.int cc)] [(.int (65 : Int32)), (.int cc)])) := fun tq kq => G32 tq (by
          refine XS.icmpYes X0.here hx rfl (pc0 := 17) (pc' := 28) rfl (hb hby d8_17) rfl (tlt hc33).1 (by decide) (by decide) ?_
          show Steps p.tables e below (s₁.setTop (mkF m 28 #[.val (.int cc)] [])) _
          refine XS.iloadN X0.here hx rfl (hb hby d8_28) rfl ?_
          show Steps p.tables e below (s₁.setTop (mkF m 29 #[.val (.int cc)] [(.int cc)])) _
          refine XS.bipush X0.here hx rfl (hb hby d8_29) ?_
          show Steps p.tables e below (s₁.setTop (mkF m 31 #[.val (.int cc)] [(.int (65 : Int32)), (.int cc)])) _
          exact kq)
        by_cases hc35 : cc < (65 : Int32)
        · have G36 : Go p e below A0 (s₁.setTop (mkF m 45 #[.val (.int cc)] [(.int (0 : Int32))])) := fun tq kq => G34 tq (by
            refine XS.icmpYes X0.here hx rfl (pc0 := 31) (pc' := 44) rfl (hb hby d8_31) rfl (tlt hc35).1 (by decide) (by decide) ?_
            show Steps p.tables e below (s₁.setTop (mkF m 44 #[.val (.int cc)] [])) _
            refine XS.iconst X0.here hx rfl (hb hby d8_44) ?_
            show Steps p.tables e below (s₁.setTop (mkF m 45 #[.val (.int cc)] [(.int (0 : Int32))])) _
            exact kq)
          obtain ⟨fs, hr, hrun, hended, hW, hsame⟩ := X0.leave (v := some (.int (nar .boolean (0 : Int32)))) (fun h => by rw [Bd.returns] at h; cases h)
          refine ⟨_, _, (by rw [← hA0]; exact G36 _ (retN X0 hx (t := .boolean) Bd.returns (by simp) (hb hby d8_45) hr)), hrun, hended, _, _, rfl, ?_, ⟨_, rfl⟩, hW, hsame.mono (by decide) (by decide)⟩
          exact ⟨(by rw [show own_b (own_W cc) = (0 : Int32) from by simp only [own_b, own_W, hc10, hc31, hc33, hc35, not_true_eq_false, not_false_eq_true, if_true, if_false, or_true, true_or, or_false, false_or, and_true, true_and, and_false, false_and, and_self, or_self]]; rfl), N0, e0⟩
        · have G37 : Go p e below A0 (s₁.setTop (mkF m 37 #[.val (.int cc)] [(.int (90 : Int32)), (.int cc)])) := fun tq kq => G34 tq (by
            refine XS.icmpNo X0.here hx rfl (hb hby d8_31) rfl (flt hc35).1 ?_
            show Steps p.tables e below (s₁.setTop (mkF m 34 #[.val (.int cc)] [])) _
            refine XS.iloadN X0.here hx rfl (hb hby d8_34) rfl ?_
            show Steps p.tables e below (s₁.setTop (mkF m 35 #[.val (.int cc)] [(.int cc)])) _
            refine XS.bipush X0.here hx rfl (hb hby d8_35) ?_
            show Steps p.tables e below (s₁.setTop (mkF m 37 #[.val (.int cc)] [(.int (90 : Int32)), (.int cc)])) _
            exact kq)
          by_cases hc38 : (90 : Int32) < cc
          · have G39 : Go p e below A0 (s₁.setTop (mkF m 45 #[.val (.int cc)] [(.int (0 : Int32))])) := fun tq kq => G37 tq (by
              refine XS.icmpYes X0.here hx rfl (pc0 := 37) (pc' := 44) rfl (hb hby d8_37) rfl (tlt hc38).2.2.1 (by decide) (by decide) ?_
              show Steps p.tables e below (s₁.setTop (mkF m 44 #[.val (.int cc)] [])) _
              refine XS.iconst X0.here hx rfl (hb hby d8_44) ?_
              show Steps p.tables e below (s₁.setTop (mkF m 45 #[.val (.int cc)] [(.int (0 : Int32))])) _
              exact kq)
            obtain ⟨fs, hr, hrun, hended, hW, hsame⟩ := X0.leave (v := some (.int (nar .boolean (0 : Int32)))) (fun h => by rw [Bd.returns] at h; cases h)
            refine ⟨_, _, (by rw [← hA0]; exact G39 _ (retN X0 hx (t := .boolean) Bd.returns (by simp) (hb hby d8_45) hr)), hrun, hended, _, _, rfl, ?_, ⟨_, rfl⟩, hW, hsame.mono (by decide) (by decide)⟩
            exact ⟨(by rw [show own_b (own_W cc) = (0 : Int32) from by simp only [own_b, own_W, hc10, hc31, hc33, hc35, hc38, not_true_eq_false, not_false_eq_true, if_true, if_false, or_true, true_or, or_false, false_or, and_true, true_and, and_false, false_and, and_self, or_self]]; rfl), N0, e0⟩
          · have G40 : Go p e below A0 (s₁.setTop (mkF m 45 #[.val (.int cc)] [(.int (1 : Int32))])) := fun tq kq => G37 tq (by
              refine XS.icmpNo X0.here hx rfl (hb hby d8_37) rfl (flt hc38).2.2.1 ?_
              show Steps p.tables e below (s₁.setTop (mkF m 40 #[.val (.int cc)] [])) _
              refine XS.iconst X0.here hx rfl (hb hby d8_40) ?_
              show Steps p.tables e below (s₁.setTop (mkF m 41 #[.val (.int cc)] [(.int (1 : Int32))])) _
              refine XS.goto X0.here hx rfl (pc0 := 41) (pc' := 45) rfl (hb hby d8_41) (by decide) (by decide) ?_
              show Steps p.tables e below (s₁.setTop (mkF m 45 #[.val (.int cc)] [(.int (1 : Int32))])) _
              exact kq)
            obtain ⟨fs, hr, hrun, hended, hW, hsame⟩ := X0.leave (v := some (.int (nar .boolean (1 : Int32)))) (fun h => by rw [Bd.returns] at h; cases h)
            refine ⟨_, _, (by rw [← hA0]; exact G40 _ (retN X0 hx (t := .boolean) Bd.returns (by simp) (hb hby d8_45) hr)), hrun, hended, _, _, rfl, ?_, ⟨_, rfl⟩, hW, hsame.mono (by decide) (by decide)⟩
            exact ⟨(by rw [show own_b (own_W cc) = (1 : Int32) from by simp only [own_b, own_W, hc10, hc31, hc33, hc35, hc38, not_true_eq_false, not_false_eq_true, if_true, if_false, or_true, true_or, or_false, false_or, and_true, true_and, and_false, false_and, and_self, or_self]]; rfl), N0, e0⟩
      · have G41 : Go p e below A0 (s₁.setTop (mkF m 23 #[.val (.int cc)] [(.int (122 : Int32)), (.int cc)])) := fun tq kq => G32 tq (by
          refine XS.icmpNo X0.here hx rfl (hb hby d8_17) rfl (flt hc33).1 ?_
          show Steps p.tables e below (s₁.setTop (mkF m 20 #[.val (.int cc)] [])) _
          refine XS.iloadN X0.here hx rfl (hb hby d8_20) rfl ?_
          show Steps p.tables e below (s₁.setTop (mkF m 21 #[.val (.int cc)] [(.int cc)])) _
          refine XS.bipush X0.here hx rfl (hb hby d8_21) ?_
          show Steps p.tables e below (s₁.setTop (mkF m 23 #[.val (.int cc)] [(.int (122 : Int32)), (.int cc)])) _
          exact kq)
        by_cases hc42 : (122 : Int32) < cc
        · have G43 : Go p e below A0 (s₁.setTop (mkF m 31 #[.val (.int cc)] [(.int (65 : Int32)), (.int cc)])) := fun tq kq => G41 tq (by
            refine XS.icmpYes X0.here hx rfl (pc0 := 23) (pc' := 28) rfl (hb hby d8_23) rfl (tlt hc42).2.2.1 (by decide) (by decide) ?_
            show Steps p.tables e below (s₁.setTop (mkF m 28 #[.val (.int cc)] [])) _
            refine XS.iloadN X0.here hx rfl (hb hby d8_28) rfl ?_
            show Steps p.tables e below (s₁.setTop (mkF m 29 #[.val (.int cc)] [(.int cc)])) _
            refine XS.bipush X0.here hx rfl (hb hby d8_29) ?_
            show Steps p.tables e below (s₁.setTop (mkF m 31 #[.val (.int cc)] [(.int (65 : Int32)), (.int cc)])) _
            exact kq)
          by_cases hc44 : cc < (65 : Int32)
          · have G45 : Go p e below A0 (s₁.setTop (mkF m 45 #[.val (.int cc)] [(.int (0 : Int32))])) := fun tq kq => G43 tq (by
              refine XS.icmpYes X0.here hx rfl (pc0 := 31) (pc' := 44) rfl (hb hby d8_31) rfl (tlt hc44).1 (by decide) (by decide) ?_
              show Steps p.tables e below (s₁.setTop (mkF m 44 #[.val (.int cc)] [])) _
              refine XS.iconst X0.here hx rfl (hb hby d8_44) ?_
              show Steps p.tables e below (s₁.setTop (mkF m 45 #[.val (.int cc)] [(.int (0 : Int32))])) _
              exact kq)
            obtain ⟨fs, hr, hrun, hended, hW, hsame⟩ := X0.leave (v := some (.int (nar .boolean (0 : Int32)))) (fun h => by rw [Bd.returns] at h; cases h)
            refine ⟨_, _, (by rw [← hA0]; exact G45 _ (retN X0 hx (t := .boolean) Bd.returns (by simp) (hb hby d8_45) hr)), hrun, hended, _, _, rfl, ?_, ⟨_, rfl⟩, hW, hsame.mono (by decide) (by decide)⟩
            exact ⟨(by rw [show own_b (own_W cc) = (0 : Int32) from by simp only [own_b, own_W, hc10, hc31, hc33, hc42, hc44, not_true_eq_false, not_false_eq_true, if_true, if_false, or_true, true_or, or_false, false_or, and_true, true_and, and_false, false_and, and_self, or_self]]; rfl), N0, e0⟩
          · have G46 : Go p e below A0 (s₁.setTop (mkF m 37 #[.val (.int cc)] [(.int (90 : Int32)), (.int cc)])) := fun tq kq => G43 tq (by
              refine XS.icmpNo X0.here hx rfl (hb hby d8_31) rfl (flt hc44).1 ?_
              show Steps p.tables e below (s₁.setTop (mkF m 34 #[.val (.int cc)] [])) _
              refine XS.iloadN X0.here hx rfl (hb hby d8_34) rfl ?_
              show Steps p.tables e below (s₁.setTop (mkF m 35 #[.val (.int cc)] [(.int cc)])) _
              refine XS.bipush X0.here hx rfl (hb hby d8_35) ?_
              show Steps p.tables e below (s₁.setTop (mkF m 37 #[.val (.int cc)] [(.int (90 : Int32)), (.int cc)])) _
              exact kq)
            by_cases hc47 : (90 : Int32) < cc
            · have G48 : Go p e below A0 (s₁.setTop (mkF m 45 #[.val (.int cc)] [(.int (0 : Int32))])) := fun tq kq => G46 tq (by
                refine XS.icmpYes X0.here hx rfl (pc0 := 37) (pc' := 44) rfl (hb hby d8_37) rfl (tlt hc47).2.2.1 (by decide) (by decide) ?_
                show Steps p.tables e below (s₁.setTop (mkF m 44 #[.val (.int cc)] [])) _
                refine XS.iconst X0.here hx rfl (hb hby d8_44) ?_
                show Steps p.tables e below (s₁.setTop (mkF m 45 #[.val (.int cc)] [(.int (0 : Int32))])) _
                exact kq)
              obtain ⟨fs, hr, hrun, hended, hW, hsame⟩ := X0.leave (v := some (.int (nar .boolean (0 : Int32)))) (fun h => by rw [Bd.returns] at h; cases h)
              refine ⟨_, _, (by rw [← hA0]; exact G48 _ (retN X0 hx (t := .boolean) Bd.returns (by simp) (hb hby d8_45) hr)), hrun, hended, _, _, rfl, ?_, ⟨_, rfl⟩, hW, hsame.mono (by decide) (by decide)⟩
              exact ⟨(by rw [show own_b (own_W cc) = (0 : Int32) from by simp only [own_b, own_W, hc10, hc31, hc33, hc42, hc44, hc47, not_true_eq_false, not_false_eq_true, if_true, if_false, or_true, true_or, or_false, false_or, and_true, true_and, and_false, false_and, and_self, or_self]]; rfl), N0, e0⟩
            · have G49 : Go p e below A0 (s₁.setTop (mkF m 45 #[.val (.int cc)] [(.int (1 : Int32))])) := fun tq kq => G46 tq (by
                refine XS.icmpNo X0.here hx rfl (hb hby d8_37) rfl (flt hc47).2.2.1 ?_
                show Steps p.tables e below (s₁.setTop (mkF m 40 #[.val (.int cc)] [])) _
                refine XS.iconst X0.here hx rfl (hb hby d8_40) ?_
                show Steps p.tables e below (s₁.setTop (mkF m 41 #[.val (.int cc)] [(.int (1 : Int32))])) _
                refine XS.goto X0.here hx rfl (pc0 := 41) (pc' := 45) rfl (hb hby d8_41) (by decide) (by decide) ?_
                show Steps p.tables e below (s₁.setTop (mkF m 45 #[.val (.int cc)] [(.int (1 : Int32))])) _
                exact kq)
              obtain ⟨fs, hr, hrun, hended, hW, hsame⟩ := X0.leave (v := some (.int (nar .boolean (1 : Int32)))) (fun h => by rw [Bd.returns] at h; cases h)
              refine ⟨_, _, (by rw [← hA0]; exact G49 _ (retN X0 hx (t := .boolean) Bd.returns (by simp) (hb hby d8_45) hr)), hrun, hended, _, _, rfl, ?_, ⟨_, rfl⟩, hW, hsame.mono (by decide) (by decide)⟩
              exact ⟨(by rw [show own_b (own_W cc) = (1 : Int32) from by simp only [own_b, own_W, hc10, hc31, hc33, hc42, hc44, hc47, not_true_eq_false, not_false_eq_true, if_true, if_false, or_true, true_or, or_false, false_or, and_true, true_and, and_false, false_and, and_self, or_self]]; rfl), N0, e0⟩
        · have G50 : Go p e below A0 (s₁.setTop (mkF m 27 #[.val (.int cc)] [(.int (1 : Int32))])) := fun tq kq => G41 tq (by
            refine XS.icmpNo X0.here hx rfl (hb hby d8_23) rfl (flt hc42).2.2.1 ?_
            show Steps p.tables e below (s₁.setTop (mkF m 26 #[.val (.int cc)] [])) _
            refine XS.iconst X0.here hx rfl (hb hby d8_26) ?_
            show Steps p.tables e below (s₁.setTop (mkF m 27 #[.val (.int cc)] [(.int (1 : Int32))])) _
            exact kq)
          obtain ⟨fs, hr, hrun, hended, hW, hsame⟩ := X0.leave (v := some (.int (nar .boolean (1 : Int32)))) (fun h => by rw [Bd.returns] at h; cases h)
          refine ⟨_, _, (by rw [← hA0]; exact G50 _ (retN X0 hx (t := .boolean) Bd.returns (by simp) (hb hby d8_27) hr)), hrun, hended, _, _, rfl, ?_, ⟨_, rfl⟩, hW, hsame.mono (by decide) (by decide)⟩
          exact ⟨(by rw [show own_b (own_W cc) = (1 : Int32) from by simp only [own_b, own_W, hc10, hc31, hc33, hc42, not_true_eq_false, not_false_eq_true, if_true, if_false, or_true, true_or, or_false, false_or, and_true, true_and, and_false, false_and, and_self, or_self]]; rfl), N0, e0⟩
    · have G51 : Go p e below A0 (s₁.setTop (mkF m 13 #[.val (.int cc)] [(.int (1 : Int32))])) := fun tq kq => G30 tq (by
        refine XS.icmpNo X0.here hx rfl (hb hby d8_9) rfl (flt hc31).2.2.1 ?_
        show Steps p.tables e below (s₁.setTop (mkF m 12 #[.val (.int cc)] [])) _
        refine XS.iconst X0.here hx rfl (hb hby d8_12) ?_
        show Steps p.tables e below (s₁.setTop (mkF m 13 #[.val (.int cc)] [(.int (1 : Int32))])) _
        exact kq)
      obtain ⟨fs, hr, hrun, hended, hW, hsame⟩ := X0.leave (v := some (.int (nar .boolean (1 : Int32)))) (fun h => by rw [Bd.returns] at h; cases h)
      refine ⟨_, _, (by rw [← hA0]; exact G51 _ (retN X0 hx (t := .boolean) Bd.returns (by simp) (hb hby d8_13) hr)), hrun, hended, _, _, rfl, ?_, ⟨_, rfl⟩, hW, hsame.mono (by decide) (by decide)⟩
      exact ⟨(by rw [show own_b (own_W cc) = (1 : Int32) from by simp only [own_b, own_W, hc10, hc31, not_true_eq_false, not_false_eq_true, if_true, if_false, or_true, true_or, or_false, false_or, and_true, true_and, and_false, false_and, and_self, or_self]]; rfl), N0, e0⟩
set_option maxRecDepth 65536 in
set_option maxHeartbeats 40000000 in
theorem rmLO (l : Launch) (Z : State) (a0 : Array Value) (hw : ∀ d ∈ tables_1, d.before a0 Z = true) (ws : List Jvm.Cond) (cc : Int32) (h0 : Heap) (n0 : Nat) (Z0 : n0 ≤ h0.size) :
    MetFree l (⟨"com/example/subtree/subtree/index/PlainWordsResetPinLaw", "lower", "(C)I"⟩ : MethodName) (head1 (Jvm.Cond.code (⟨"com/example/subtree/subtree/index/PlainWordsResetPinLaw", "lower", "(C)I"⟩ : MethodName) method_4_code 1 (some .int) :: ws) ({ frames := 0, cells := 0, slots := 0, locals := 0 } : Room)) (fun aa UU => aa = #[(.int cc)] ∧ Z.Warmed39 UU.vm ∧ UU.heap = h0) (fun _ _ _ _ _ => True) (fun _ UU oo U' => ∃ v L, oo = .returned v ∧ Qr (.int (own_low cc)) h0 n0 v U'.heap L ∧ FrameEnd UU oo U' L ({ frames := 0, cells := 0, slots := 0, locals := 0 } : Room).cells ({ frames := 0, cells := 0, slots := 0, locals := 0 } : Room).slots) := by
  refine MetFree.of_bodySF (plainFor_of_name pn_0) hisR ?_
  intro p e s m args below meth c s₁ Bd hml0 hP hK
  obtain ⟨rfl, hZ, hh⟩ := hP
  have hx := Bd.exec
  have hby := Bd.bytes
  have hml : c.maxLocals = 1 := hml0
  have hown : s.vm.findClass "com/example/subtree/subtree/index/PlainWordsResetPinLaw" = some m.cls := findClass_of_methodNamed Bd.named
  have hnm := (name_of_methodNamed Bd.named Bd.method).1
  have X0 : Stand p l e ({ frames := 0, cells := 0, slots := 0, locals := 0 } : Room) s m #[(.int cc)] below meth c s₁ [] 0 0 := Stand.of_body Bd
  have e0 : s₁.heap = h0 := by rw [← hh, Bd.state]; rfl
  have N0 := Fr.nil n0
  obtain ⟨A0, hA0⟩ : ∃ A, A = s₁.setTop (entryFrame m #[(.int cc)] 1) := ⟨_, rfl⟩
  have G0 : Go p e below A0 (s₁.setTop (mkF m 0 #[.val (.int cc)] [])) := fun tq kq => by rw [hA0]; exact castTop (ef_rmLO m cc) kq
  have G52 : Go p e below A0 (s₁.setTop (mkF m 3 #[.val (.int cc)] [(.int (65 : Int32)), (.int cc)])) := fun tq kq => G0 tq (by
    refine XS.iloadN X0.here hx rfl (hb hby d11_0) rfl ?_
    show Steps p.tables e below (s₁.setTop (mkF m 1 #[.val (.int cc)] [(.int cc)])) _
    refine XS.bipush X0.here hx rfl (hb hby d11_1) ?_
    show Steps p.tables e below (s₁.setTop (mkF m 3 #[.val (.int cc)] [(.int (65 : Int32)), (.int cc)])) _
    exact kq)
  by_cases hc53 : cc < (65 : Int32)
  · have G54 : Go p e below A0 (s₁.setTop (mkF m 18 #[.val (.int cc)] [(.int cc)])) := fun tq kq => G52 tq (by
      refine XS.icmpYes X0.here hx rfl (pc0 := 3) (pc' := 17) rfl (hb hby d11_3) rfl (tlt hc53).1 (by decide) (by decide) ?_
      show Steps p.tables e below (s₁.setTop (mkF m 17 #[.val (.int cc)] [])) _
      refine XS.iloadN X0.here hx rfl (hb hby d11_17) rfl ?_
      show Steps p.tables e below (s₁.setTop (mkF m 18 #[.val (.int cc)] [(.int cc)])) _
      exact kq)
    obtain ⟨fs, hr, hrun, hended, hW, hsame⟩ := X0.leave (v := some (.int cc)) (fun h => by rw [Bd.returns] at h; cases h)
    refine ⟨_, _, (by rw [← hA0]; exact G54 _ (retOut X0 hx (t := .int) Bd.returns rfl (Or.inl ⟨rfl, Or.inl rfl, _, rfl⟩) (hb hby d11_18) hr)), hrun, hended, _, _, rfl, ?_, ⟨_, rfl⟩, hW, hsame.mono (by decide) (by decide)⟩
    exact ⟨(by rw [show own_low cc = cc from by simp only [own_b, own_low, hc53, not_true_eq_false, not_false_eq_true, if_true, if_false, or_true, true_or, or_false, false_or, and_true, true_and, and_false, false_and, and_self, or_self]]), N0, e0⟩
  · have G55 : Go p e below A0 (s₁.setTop (mkF m 9 #[.val (.int cc)] [(.int (90 : Int32)), (.int cc)])) := fun tq kq => G52 tq (by
      refine XS.icmpNo X0.here hx rfl (hb hby d11_3) rfl (flt hc53).1 ?_
      show Steps p.tables e below (s₁.setTop (mkF m 6 #[.val (.int cc)] [])) _
      refine XS.iloadN X0.here hx rfl (hb hby d11_6) rfl ?_
      show Steps p.tables e below (s₁.setTop (mkF m 7 #[.val (.int cc)] [(.int cc)])) _
      refine XS.bipush X0.here hx rfl (hb hby d11_7) ?_
      show Steps p.tables e below (s₁.setTop (mkF m 9 #[.val (.int cc)] [(.int (90 : Int32)), (.int cc)])) _
      exact kq)
    by_cases hc56 : (90 : Int32) < cc
    · have G57 : Go p e below A0 (s₁.setTop (mkF m 18 #[.val (.int cc)] [(.int cc)])) := fun tq kq => G55 tq (by
        refine XS.icmpYes X0.here hx rfl (pc0 := 9) (pc' := 17) rfl (hb hby d11_9) rfl (tlt hc56).2.2.1 (by decide) (by decide) ?_
        show Steps p.tables e below (s₁.setTop (mkF m 17 #[.val (.int cc)] [])) _
        refine XS.iloadN X0.here hx rfl (hb hby d11_17) rfl ?_
        show Steps p.tables e below (s₁.setTop (mkF m 18 #[.val (.int cc)] [(.int cc)])) _
        exact kq)
      obtain ⟨fs, hr, hrun, hended, hW, hsame⟩ := X0.leave (v := some (.int cc)) (fun h => by rw [Bd.returns] at h; cases h)
      refine ⟨_, _, (by rw [← hA0]; exact G57 _ (retOut X0 hx (t := .int) Bd.returns rfl (Or.inl ⟨rfl, Or.inl rfl, _, rfl⟩) (hb hby d11_18) hr)), hrun, hended, _, _, rfl, ?_, ⟨_, rfl⟩, hW, hsame.mono (by decide) (by decide)⟩
      exact ⟨(by rw [show own_low cc = cc from by simp only [own_b, own_low, hc53, hc56, not_true_eq_false, not_false_eq_true, if_true, if_false, or_true, true_or, or_false, false_or, and_true, true_and, and_false, false_and, and_self, or_self]]), N0, e0⟩
    · have G58 : Go p e below A0 (s₁.setTop (mkF m 16 #[.val (.int cc)] [(.int (cc + (32 : Int32)))])) := fun tq kq => G55 tq (by
        refine XS.icmpNo X0.here hx rfl (hb hby d11_9) rfl (flt hc56).2.2.1 ?_
        show Steps p.tables e below (s₁.setTop (mkF m 12 #[.val (.int cc)] [])) _
        refine XS.iloadN X0.here hx rfl (hb hby d11_12) rfl ?_
        show Steps p.tables e below (s₁.setTop (mkF m 13 #[.val (.int cc)] [(.int cc)])) _
        refine XS.bipush X0.here hx rfl (hb hby d11_13) ?_
        show Steps p.tables e below (s₁.setTop (mkF m 15 #[.val (.int cc)] [(.int (32 : Int32)), (.int cc)])) _
        refine XS.iadd X0.here hx rfl (hb hby d11_15) rfl ?_
        show Steps p.tables e below (s₁.setTop (mkF m 16 #[.val (.int cc)] [(.int (cc + (32 : Int32)))])) _
        exact kq)
      obtain ⟨fs, hr, hrun, hended, hW, hsame⟩ := X0.leave (v := some (.int (cc + (32 : Int32)))) (fun h => by rw [Bd.returns] at h; cases h)
      refine ⟨_, _, (by rw [← hA0]; exact G58 _ (retOut X0 hx (t := .int) Bd.returns rfl (Or.inl ⟨rfl, Or.inl rfl, _, rfl⟩) (hb hby d11_16) hr)), hrun, hended, _, _, rfl, ?_, ⟨_, rfl⟩, hW, hsame.mono (by decide) (by decide)⟩
      exact ⟨(by rw [show own_low cc = (cc + (32 : Int32)) from by simp only [own_b, own_low, hc53, hc56, not_true_eq_false, not_false_eq_true, if_true, if_false, or_true, true_or, or_false, false_or, and_true, true_and, and_false, false_and, and_self, or_self]]), N0, e0⟩
def Qi (Z : State) (ax : Addr) (h0 : Heap) (n0 : Nat) (v : Option Value) (h : Heap) (L : List Loc) : Prop := ∃ wb kw, v = none ∧ Fr n0 L ∧ Keep h0 h [ax] ∧ h0.size ≤ wb ∧ n0 ≤ wb ∧ Fld Z h ax "com/example/subtree/subtree/index/PlainWords" "text" "[C" .null ∧ Fld Z h ax "com/example/subtree/subtree/index/PlainWords" "at" "I" (.int (0 : Int32)) ∧ Fld Z h ax "com/example/subtree/subtree/index/PlainWords" "to" "I" (.int (0 : Int32)) ∧ Fld Z h ax "com/example/subtree/subtree/index/PlainWords" "length" "I" (.int (0 : Int32)) ∧ Fld Z h ax "com/example/subtree/subtree/index/PlainWords" "word" "[B" (.ref wb) ∧ Af Z h wb kw .byte (64 : Int32) (fun i => .int ((fun _ => (0 : Int32)) i))
set_option maxRecDepth 65536 in
set_option maxHeartbeats 40000000 in
theorem rmI (l : Launch) (Z : State) (a0 : Array Value) (hw : ∀ d ∈ tables_1, d.before a0 Z = true) (ws : List Jvm.Cond) (ax : Addr) (h0 : Heap) (n0 : Nat) (Z0 : n0 ≤ h0.size) (E : Exa Z h0 ax "com/example/subtree/subtree/index/PlainWords") (gax : n0 ≤ ax) (F_text : Fld Z h0 ax "com/example/subtree/subtree/index/PlainWords" "text" "[C" .null) (F_at : Fld Z h0 ax "com/example/subtree/subtree/index/PlainWords" "at" "I" (.int (0 : Int32))) (F_to : Fld Z h0 ax "com/example/subtree/subtree/index/PlainWords" "to" "I" (.int (0 : Int32))) (F_length : Fld Z h0 ax "com/example/subtree/subtree/index/PlainWords" "length" "I" (.int (0 : Int32))) (F_word : Fld Z h0 ax "com/example/subtree/subtree/index/PlainWords" "word" "[B" .null) :
    MetFree l (⟨"com/example/subtree/subtree/index/PlainWords", "<init>", "()V"⟩ : MethodName) (head1 (Jvm.Cond.code (⟨"com/example/subtree/subtree/index/PlainWords", "<init>", "()V"⟩ : MethodName) prog_20_method_1_code 1 none :: ws) ({ frames := 1, cells := 1, slots := 64, locals := 12 } : Room)) (fun aa UU => aa = #[(.ref ax)] ∧ Z.Warmed39 UU.vm ∧ UU.heap = h0) (fun _ _ _ _ _ => True) (fun _ UU oo U' => ∃ v L, oo = .returned v ∧ Qi Z ax h0 n0 v U'.heap L ∧ FrameEnd UU oo U' L ({ frames := 1, cells := 1, slots := 64, locals := 12 } : Room).cells ({ frames := 1, cells := 1, slots := 64, locals := 12 } : Room).slots) := by
  refine MetFree.of_bodySF (plainFor_of_name pn_1) hisR ?_
  intro p e s m args below meth c s₁ Bd hml0 hP hK
  obtain ⟨rfl, hZ, hh⟩ := hP
  have hx := Bd.exec
  have hby := Bd.bytes
  have hml : c.maxLocals = 1 := hml0
  have hown : s.vm.findClass "com/example/subtree/subtree/index/PlainWords" = some m.cls := findClass_of_methodNamed Bd.named
  have hnm := (name_of_methodNamed Bd.named Bd.method).1
  have X0 : Stand p l e ({ frames := 1, cells := 1, slots := 64, locals := 12 } : Room) s m #[(.ref ax)] below meth c s₁ [] 0 0 := Stand.of_body Bd
  have e0 : s₁.heap = h0 := by rw [← hh, Bd.state]; rfl
  have N0 := Fr.nil n0
  obtain ⟨A0, hA0⟩ : ∃ A, A = s₁.setTop (entryFrame m #[(.ref ax)] 1) := ⟨_, rfl⟩
  have G0 : Go p e below A0 (s₁.setTop (mkF m 0 #[.val (.ref ax)] [])) := fun tq kq => by rw [hA0]; exact castTop (ef_rmI m ax) kq
  have G59 : Go p e below A0 (s₁.setTop (mkF m 1 #[.val (.ref ax)] [(.ref ax)])) := fun tq kq => G0 tq (by
    refine XS.aloadN X0.here hx rfl (hb hby d3_0) rfl rfl ?_
    show Steps p.tables e below (s₁.setTop (mkF m 1 #[.val (.ref ax)] [(.ref ax)])) _
    exact kq)
  obtain ⟨T60, X60, e60, st60⟩ := initO X0 hx hZ hown (hw _ (List.mem_of_getElem? (i := 14) rfl)) (hw _ (List.mem_of_getElem? (i := 15) rfl)) (hw _ (List.mem_of_getElem? (i := 16) rfl)) e0 (g := (mkF m 1 #[.val (.ref ax)] [(.ref ax)])) rfl (by rw [hml]; rfl) rfl (hb hby d3_1) (by decide) (W := 0) (by show 2 * 0 + _ ≤ _; exact Nat.le_of_eq rfl) (by decide)
  have G61 : Go p e below A0 (T60.setTop (mkF m 4 #[.val (.ref ax)] [])) := fun tq kq => G59 tq (st60 _ kq)
  have G62 : Go p e below A0 (T60.setTop (mkF m 7 #[.val (.ref ax)] [(.int (64 : Int32)), (.ref ax)])) := fun tq kq => G61 tq (by
    refine XS.aloadN X60.here hx rfl (hb hby d3_4) rfl rfl ?_
    show Steps p.tables e below (T60.setTop (mkF m 5 #[.val (.ref ax)] [(.ref ax)])) _
    refine XS.bipush X60.here hx rfl (hb hby d3_5) ?_
    show Steps p.tables e below (T60.setTop (mkF m 7 #[.val (.ref ax)] [(.int (64 : Int32)), (.ref ax)])) _
    exact kq)
  obtain ⟨T63, h63, k63, X63, e63, E63, A63, st63⟩ := newP X60 hx hZ (hw _ (List.mem_of_getElem? (i := 17) rfl)) e60 (g := (mkF m 7 #[.val (.ref ax)] [(.int (64 : Int32)), (.ref ax)])) rfl (hb hby d3_7) rfl (by decide) (cap := 64) (by decide) (by decide) (by decide) (by decide)
  obtain ⟨b63, g63⟩ : ∃ z, z = h0.size := ⟨_, rfl⟩
  rw [← g63] at A63 st63
  have sz_b63 : h0.size ≤ b63 := Nat.le_trans (Nat.le_refl h0.size) (Nat.le_of_eq g63.symm)
  have g_b63 : n0 ≤ b63 := Nat.le_trans Z0 (Nat.le_of_eq g63.symm)
  have lt_ax_b63 : ax < b63 := Nat.lt_of_lt_of_le E.lt (Nat.le_of_eq g63.symm)
  have V63 : Arv Z h63 b63 k63 .byte (64 : Int32) [] (.int (0 : Int32)) := Arv.new A63 (by decide)
  have G64 : Go p e below A0 (T63.setTop (mkF m 9 #[.val (.ref ax)] [(.ref b63), (.ref ax)])) := fun tq kq => G62 tq (st63 _ kq)
  have f65 := (E.ext E63)
  have f66 := (F_word.ext E63)
  obtain ⟨T67, h67, X67, e67, W67, st67⟩ := putF X63 hx hZ hown (host := "") (Or.inl (hw _ (List.mem_of_getElem? (i := 18) rfl))) Via.refl e63 f66 f65 (Or.inl (hw _ (List.mem_of_getElem? (i := 19) rfl))) (hw _ (List.mem_of_getElem? (i := 9) rfl)) (ty := (.array .byte)) (by decide) rfl rfl (g := (mkF m 9 #[.val (.ref ax)] [(.ref b63), (.ref ax)])) rfl rfl (hb hby d3_9)
  have N67 := Fr.snoc X67 N0 gax
  have fw67 := f66.same W67
  have G68 : Go p e below A0 (T67.setTop (mkF m 12 #[.val (.ref ax)] [])) := fun tq kq => G64 tq (st67 _ kq)
  have f69 := ((F_text.ext E63).other W67 (Or.inr (slot_ne (Or.inl (hw _ (List.mem_of_getElem? (i := 26) rfl))) (Or.inl (hw _ (List.mem_of_getElem? (i := 19) rfl))) (by decide) (t := (.array .char)) (t' := (.array .byte)) (by decide) (by decide))))
  have f70 := ((F_at.ext E63).other W67 (Or.inr (slot_ne (Or.inl (hw _ (List.mem_of_getElem? (i := 28) rfl))) (Or.inl (hw _ (List.mem_of_getElem? (i := 19) rfl))) (by decide) (t := .int) (t' := (.array .byte)) (by decide) (by decide))))
  have f71 := ((F_to.ext E63).other W67 (Or.inr (slot_ne (Or.inl (hw _ (List.mem_of_getElem? (i := 30) rfl))) (Or.inl (hw _ (List.mem_of_getElem? (i := 19) rfl))) (by decide) (t := .int) (t' := (.array .byte)) (by decide) (by decide))))
  have f72 := ((F_length.ext E63).other W67 (Or.inr (slot_ne (Or.inl (hw _ (List.mem_of_getElem? (i := 32) rfl))) (Or.inl (hw _ (List.mem_of_getElem? (i := 19) rfl))) (by decide) (t := .int) (t' := (.array .byte)) (by decide) (by decide))))
  have f73 := (V63.other W67 (Ne.symm (Nat.ne_of_lt lt_ax_b63)))
  obtain ⟨fs, hr, hrun, hended, hW, hsame⟩ := X67.leave (v := none) (fun _ => rfl)
  refine ⟨_, _, (by rw [← hA0]; exact G68 _ (X67.returnOut hx Bd.returns (hb hby d3_12) hr)), hrun, hended, _, _, rfl, ?_, ⟨_, rfl⟩, hW, hsame.mono (by decide) (by decide)⟩
  show Qi Z ax h0 n0 _ T67.heap _
  rw [e67]
  exact ⟨b63, k63, rfl, N67, (((Keep.refl h0 [ax]).ext E63).wr W67 (Or.inl (List.mem_of_getElem? (i := 0) rfl))), sz_b63, g_b63, f69, f70, f71, f72, fw67, (Af.of f73).fn (fun j _ => rfl)⟩
def Qrs (Z : State) (ax tx wb : Addr) (ff nn : Int32) (h0 : Heap) (n0 : Nat) (v : Option Value) (h : Heap) (L : List Loc) : Prop := v = none ∧ Fr n0 L ∧ Keep h0 h [ax] ∧ Fld Z h ax "com/example/subtree/subtree/index/PlainWords" "text" "[C" (.ref tx) ∧ Fld Z h ax "com/example/subtree/subtree/index/PlainWords" "at" "I" (.int ff) ∧ Fld Z h ax "com/example/subtree/subtree/index/PlainWords" "to" "I" (.int nn) ∧ Fld Z h ax "com/example/subtree/subtree/index/PlainWords" "length" "I" (.int (0 : Int32)) ∧ Fld Z h ax "com/example/subtree/subtree/index/PlainWords" "word" "[B" (.ref wb)
set_option maxRecDepth 65536 in
set_option maxHeartbeats 40000000 in
theorem rmR (l : Launch) (Z : State) (a0 : Array Value) (hw : ∀ d ∈ tables_1, d.before a0 Z = true) (ws : List Jvm.Cond) (ax tx wb : Addr) (ff nn oa ob oc : Int32) (ot : Value) (h0 : Heap) (n0 : Nat) (Z0 : n0 ≤ h0.size) (E : Exa Z h0 ax "com/example/subtree/subtree/index/PlainWords") (gax : n0 ≤ ax) (F_text : Fld Z h0 ax "com/example/subtree/subtree/index/PlainWords" "text" "[C" ot) (F_at : Fld Z h0 ax "com/example/subtree/subtree/index/PlainWords" "at" "I" (.int oa)) (F_to : Fld Z h0 ax "com/example/subtree/subtree/index/PlainWords" "to" "I" (.int ob)) (F_length : Fld Z h0 ax "com/example/subtree/subtree/index/PlainWords" "length" "I" (.int oc)) (F_word : Fld Z h0 ax "com/example/subtree/subtree/index/PlainWords" "word" "[B" (.ref wb)) :
    MetFree l (⟨"com/example/subtree/subtree/index/PlainWords", "reset", "([CII)V"⟩ : MethodName) (head1 (Jvm.Cond.code (⟨"com/example/subtree/subtree/index/PlainWords", "reset", "([CII)V"⟩ : MethodName) prog_20_method_2_code 4 none :: ws) ({ frames := 0, cells := 0, slots := 0, locals := 0 } : Room)) (fun aa UU => aa = #[(.ref ax), (.ref tx), (.int ff), (.int nn)] ∧ Z.Warmed39 UU.vm ∧ UU.heap = h0) (fun _ _ _ _ _ => True) (fun _ UU oo U' => ∃ v L, oo = .returned v ∧ Qrs Z ax tx wb ff nn h0 n0 v U'.heap L ∧ FrameEnd UU oo U' L ({ frames := 0, cells := 0, slots := 0, locals := 0 } : Room).cells ({ frames := 0, cells := 0, slots := 0, locals := 0 } : Room).slots) := by
  refine MetFree.of_bodySF (plainFor_of_name pn_1) hisR ?_
  intro p e s m args below meth c s₁ Bd hml0 hP hK
  obtain ⟨rfl, hZ, hh⟩ := hP
  have hx := Bd.exec
  have hby := Bd.bytes
  have hml : c.maxLocals = 4 := hml0
  have hown : s.vm.findClass "com/example/subtree/subtree/index/PlainWords" = some m.cls := findClass_of_methodNamed Bd.named
  have hnm := (name_of_methodNamed Bd.named Bd.method).1
  have X0 : Stand p l e ({ frames := 0, cells := 0, slots := 0, locals := 0 } : Room) s m #[(.ref ax), (.ref tx), (.int ff), (.int nn)] below meth c s₁ [] 0 0 := Stand.of_body Bd
  have e0 : s₁.heap = h0 := by rw [← hh, Bd.state]; rfl
  have N0 := Fr.nil n0
  obtain ⟨A0, hA0⟩ : ∃ A, A = s₁.setTop (entryFrame m #[(.ref ax), (.ref tx), (.int ff), (.int nn)] 4) := ⟨_, rfl⟩
  have G0 : Go p e below A0 (s₁.setTop (mkF m 0 #[.val (.ref ax), .val (.ref tx), .val (.int ff), .val (.int nn)] [])) := fun tq kq => by rw [hA0]; exact castTop (ef_rmR m ax tx ff nn) kq
  have G74 : Go p e below A0 (s₁.setTop (mkF m 2 #[.val (.ref ax), .val (.ref tx), .val (.int ff), .val (.int nn)] [(.ref tx), (.ref ax)])) := fun tq kq => G0 tq (by
    refine XS.aloadN X0.here hx rfl (hb hby d5_0) rfl rfl ?_
    show Steps p.tables e below (s₁.setTop (mkF m 1 #[.val (.ref ax), .val (.ref tx), .val (.int ff), .val (.int nn)] [(.ref ax)])) _
    refine XS.aloadN X0.here hx rfl (hb hby d5_1) rfl rfl ?_
    show Steps p.tables e below (s₁.setTop (mkF m 2 #[.val (.ref ax), .val (.ref tx), .val (.int ff), .val (.int nn)] [(.ref tx), (.ref ax)])) _
    exact kq)
  obtain ⟨T75, h75, X75, e75, W75, st75⟩ := putF X0 hx hZ hown (host := "") (Or.inl (hw _ (List.mem_of_getElem? (i := 25) rfl))) Via.refl e0 F_text E (Or.inl (hw _ (List.mem_of_getElem? (i := 26) rfl))) (hw _ (List.mem_of_getElem? (i := 9) rfl)) (ty := (.array .char)) (by decide) rfl rfl (g := (mkF m 2 #[.val (.ref ax), .val (.ref tx), .val (.int ff), .val (.int nn)] [(.ref tx), (.ref ax)])) rfl rfl (hb hby d5_2)
  have N75 := Fr.snoc X75 N0 gax
  have fw75 := F_text.same W75
  have G76 : Go p e below A0 (T75.setTop (mkF m 5 #[.val (.ref ax), .val (.ref tx), .val (.int ff), .val (.int nn)] [])) := fun tq kq => G74 tq (st75 _ kq)
  have G77 : Go p e below A0 (T75.setTop (mkF m 7 #[.val (.ref ax), .val (.ref tx), .val (.int ff), .val (.int nn)] [(.int ff), (.ref ax)])) := fun tq kq => G76 tq (by
    refine XS.aloadN X75.here hx rfl (hb hby d5_5) rfl rfl ?_
    show Steps p.tables e below (T75.setTop (mkF m 6 #[.val (.ref ax), .val (.ref tx), .val (.int ff), .val (.int nn)] [(.ref ax)])) _
    refine XS.iloadN X75.here hx rfl (hb hby d5_6) rfl ?_
    show Steps p.tables e below (T75.setTop (mkF m 7 #[.val (.ref ax), .val (.ref tx), .val (.int ff), .val (.int nn)] [(.int ff), (.ref ax)])) _
    exact kq)
  have f78 := (E.wr W75)
  have f79 := (F_at.other W75 (Or.inr (slot_ne (Or.inl (hw _ (List.mem_of_getElem? (i := 28) rfl))) (Or.inl (hw _ (List.mem_of_getElem? (i := 26) rfl))) (by decide) (t := .int) (t' := (.array .char)) (by decide) (by decide))))
  obtain ⟨T80, h80, X80, e80, W80, st80⟩ := putF X75 hx hZ hown (host := "") (Or.inl (hw _ (List.mem_of_getElem? (i := 27) rfl))) Via.refl e75 f79 f78 (Or.inl (hw _ (List.mem_of_getElem? (i := 28) rfl))) (hw _ (List.mem_of_getElem? (i := 9) rfl)) (ty := .int) (by decide) rfl rfl (g := (mkF m 7 #[.val (.ref ax), .val (.ref tx), .val (.int ff), .val (.int nn)] [(.int ff), (.ref ax)])) rfl rfl (hb hby d5_7)
  have N80 := Fr.snoc X80 N75 gax
  have fw80 := f79.same W80
  have G81 : Go p e below A0 (T80.setTop (mkF m 10 #[.val (.ref ax), .val (.ref tx), .val (.int ff), .val (.int nn)] [])) := fun tq kq => G77 tq (st80 _ kq)
  have G82 : Go p e below A0 (T80.setTop (mkF m 12 #[.val (.ref ax), .val (.ref tx), .val (.int ff), .val (.int nn)] [(.int nn), (.ref ax)])) := fun tq kq => G81 tq (by
    refine XS.aloadN X80.here hx rfl (hb hby d5_10) rfl rfl ?_
    show Steps p.tables e below (T80.setTop (mkF m 11 #[.val (.ref ax), .val (.ref tx), .val (.int ff), .val (.int nn)] [(.ref ax)])) _
    refine XS.iloadN X80.here hx rfl (hb hby d5_11) rfl ?_
    show Steps p.tables e below (T80.setTop (mkF m 12 #[.val (.ref ax), .val (.ref tx), .val (.int ff), .val (.int nn)] [(.int nn), (.ref ax)])) _
    exact kq)
  have f83 := (f78.wr W80)
  have f84 := ((F_to.other W75 (Or.inr (slot_ne (Or.inl (hw _ (List.mem_of_getElem? (i := 30) rfl))) (Or.inl (hw _ (List.mem_of_getElem? (i := 26) rfl))) (by decide) (t := .int) (t' := (.array .char)) (by decide) (by decide)))).other W80 (Or.inr (slot_ne (Or.inl (hw _ (List.mem_of_getElem? (i := 30) rfl))) (Or.inl (hw _ (List.mem_of_getElem? (i := 28) rfl))) (by decide) (t := .int) (t' := .int) (by decide) (by decide))))
  obtain ⟨T85, h85, X85, e85, W85, st85⟩ := putF X80 hx hZ hown (host := "") (Or.inl (hw _ (List.mem_of_getElem? (i := 29) rfl))) Via.refl e80 f84 f83 (Or.inl (hw _ (List.mem_of_getElem? (i := 30) rfl))) (hw _ (List.mem_of_getElem? (i := 9) rfl)) (ty := .int) (by decide) rfl rfl (g := (mkF m 12 #[.val (.ref ax), .val (.ref tx), .val (.int ff), .val (.int nn)] [(.int nn), (.ref ax)])) rfl rfl (hb hby d5_12)
  have N85 := Fr.snoc X85 N80 gax
  have fw85 := f84.same W85
  have G86 : Go p e below A0 (T85.setTop (mkF m 15 #[.val (.ref ax), .val (.ref tx), .val (.int ff), .val (.int nn)] [])) := fun tq kq => G82 tq (st85 _ kq)
  have G87 : Go p e below A0 (T85.setTop (mkF m 17 #[.val (.ref ax), .val (.ref tx), .val (.int ff), .val (.int nn)] [(.int (0 : Int32)), (.ref ax)])) := fun tq kq => G86 tq (by
    refine XS.aloadN X85.here hx rfl (hb hby d5_15) rfl rfl ?_
    show Steps p.tables e below (T85.setTop (mkF m 16 #[.val (.ref ax), .val (.ref tx), .val (.int ff), .val (.int nn)] [(.ref ax)])) _
    refine XS.iconst X85.here hx rfl (hb hby d5_16) ?_
    show Steps p.tables e below (T85.setTop (mkF m 17 #[.val (.ref ax), .val (.ref tx), .val (.int ff), .val (.int nn)] [(.int (0 : Int32)), (.ref ax)])) _
    exact kq)
  have f88 := (f83.wr W85)
  have f89 := (((F_length.other W75 (Or.inr (slot_ne (Or.inl (hw _ (List.mem_of_getElem? (i := 32) rfl))) (Or.inl (hw _ (List.mem_of_getElem? (i := 26) rfl))) (by decide) (t := .int) (t' := (.array .char)) (by decide) (by decide)))).other W80 (Or.inr (slot_ne (Or.inl (hw _ (List.mem_of_getElem? (i := 32) rfl))) (Or.inl (hw _ (List.mem_of_getElem? (i := 28) rfl))) (by decide) (t := .int) (t' := .int) (by decide) (by decide)))).other W85 (Or.inr (slot_ne (Or.inl (hw _ (List.mem_of_getElem? (i := 32) rfl))) (Or.inl (hw _ (List.mem_of_getElem? (i := 30) rfl))) (by decide) (t := .int) (t' := .int) (by decide) (by decide))))
  obtain ⟨T90, h90, X90, e90, W90, st90⟩ := putF X85 hx hZ hown (host := "") (Or.inl (hw _ (List.mem_of_getElem? (i := 31) rfl))) Via.refl e85 f89 f88 (Or.inl (hw _ (List.mem_of_getElem? (i := 32) rfl))) (hw _ (List.mem_of_getElem? (i := 9) rfl)) (ty := .int) (by decide) rfl rfl (g := (mkF m 17 #[.val (.ref ax), .val (.ref tx), .val (.int ff), .val (.int nn)] [(.int (0 : Int32)), (.ref ax)])) rfl rfl (hb hby d5_17)
  have N90 := Fr.snoc X90 N85 gax
  have fw90 := f89.same W90
  have G91 : Go p e below A0 (T90.setTop (mkF m 20 #[.val (.ref ax), .val (.ref tx), .val (.int ff), .val (.int nn)] [])) := fun tq kq => G87 tq (st90 _ kq)
  have f92 := (((fw75.other W80 (Or.inr (slot_ne (Or.inl (hw _ (List.mem_of_getElem? (i := 26) rfl))) (Or.inl (hw _ (List.mem_of_getElem? (i := 28) rfl))) (by decide) (t := (.array .char)) (t' := .int) (by decide) (by decide)))).other W85 (Or.inr (slot_ne (Or.inl (hw _ (List.mem_of_getElem? (i := 26) rfl))) (Or.inl (hw _ (List.mem_of_getElem? (i := 30) rfl))) (by decide) (t := (.array .char)) (t' := .int) (by decide) (by decide)))).other W90 (Or.inr (slot_ne (Or.inl (hw _ (List.mem_of_getElem? (i := 26) rfl))) (Or.inl (hw _ (List.mem_of_getElem? (i := 32) rfl))) (by decide) (t := (.array .char)) (t' := .int) (by decide) (by decide))))
  have f93 := ((fw80.other W85 (Or.inr (slot_ne (Or.inl (hw _ (List.mem_of_getElem? (i := 28) rfl))) (Or.inl (hw _ (List.mem_of_getElem? (i := 30) rfl))) (by decide) (t := .int) (t' := .int) (by decide) (by decide)))).other W90 (Or.inr (slot_ne (Or.inl (hw _ (List.mem_of_getElem? (i := 28) rfl))) (Or.inl (hw _ (List.mem_of_getElem? (i := 32) rfl))) (by decide) (t := .int) (t' := .int) (by decide) (by decide))))
  have f94 := (fw85.other W90 (Or.inr (slot_ne (Or.inl (hw _ (List.mem_of_getElem? (i := 30) rfl))) (Or.inl (hw _ (List.mem_of_getElem? (i := 32) rfl))) (by decide) (t := .int) (t' := .int) (by decide) (by decide))))
  have f95 := ((((F_word.other W75 (Or.inr (slot_ne (Or.inl (hw _ (List.mem_of_getElem? (i := 19) rfl))) (Or.inl (hw _ (List.mem_of_getElem? (i := 26) rfl))) (by decide) (t := (.array .byte)) (t' := (.array .char)) (by decide) (by decide)))).other W80 (Or.inr (slot_ne (Or.inl (hw _ (List.mem_of_getElem? (i := 19) rfl))) (Or.inl (hw _ (List.mem_of_getElem? (i := 28) rfl))) (by decide) (t := (.array .byte)) (t' := .int) (by decide) (by decide)))).other W85 (Or.inr (slot_ne (Or.inl (hw _ (List.mem_of_getElem? (i := 19) rfl))) (Or.inl (hw _ (List.mem_of_getElem? (i := 30) rfl))) (by decide) (t := (.array .byte)) (t' := .int) (by decide) (by decide)))).other W90 (Or.inr (slot_ne (Or.inl (hw _ (List.mem_of_getElem? (i := 19) rfl))) (Or.inl (hw _ (List.mem_of_getElem? (i := 32) rfl))) (by decide) (t := (.array .byte)) (t' := .int) (by decide) (by decide))))
  obtain ⟨fs, hr, hrun, hended, hW, hsame⟩ := X90.leave (v := none) (fun _ => rfl)
  refine ⟨_, _, (by rw [← hA0]; exact G91 _ (X90.returnOut hx Bd.returns (hb hby d5_20) hr)), hrun, hended, _, _, rfl, ?_, ⟨_, rfl⟩, hW, hsame.mono (by decide) (by decide)⟩
  show Qrs Z ax tx wb ff nn h0 n0 _ T90.heap _
  rw [e90]
  exact ⟨rfl, N90, (((((Keep.refl h0 [ax]).wr W75 (Or.inl (List.mem_of_getElem? (i := 0) rfl))).wr W80 (Or.inl (List.mem_of_getElem? (i := 0) rfl))).wr W85 (Or.inl (List.mem_of_getElem? (i := 0) rfl))).wr W90 (Or.inl (List.mem_of_getElem? (i := 0) rfl))), f92, f93, f94, fw90, f95⟩
set_option maxRecDepth 65536 in
set_option maxHeartbeats 40000000 in
theorem rmL (l : Launch) (Z : State) (a0 : Array Value) (hw : ∀ d ∈ tables_1, d.before a0 Z = true) (ws : List Jvm.Cond) (ax : Addr) (oc : Int32) (h0 : Heap) (n0 : Nat) (Z0 : n0 ≤ h0.size) (F_length : Fld Z h0 ax "com/example/subtree/subtree/index/PlainWords" "length" "I" (.int oc)) :
    MetFree l (⟨"com/example/subtree/subtree/index/PlainWords", "length", "()I"⟩ : MethodName) (head1 (Jvm.Cond.code (⟨"com/example/subtree/subtree/index/PlainWords", "length", "()I"⟩ : MethodName) prog_20_method_5_code 1 (some .int) :: ws) ({ frames := 0, cells := 0, slots := 0, locals := 0 } : Room)) (fun aa UU => aa = #[(.ref ax)] ∧ Z.Warmed39 UU.vm ∧ UU.heap = h0) (fun _ _ _ _ _ => True) (fun _ UU oo U' => ∃ v L, oo = .returned v ∧ Qr (.int oc) h0 n0 v U'.heap L ∧ FrameEnd UU oo U' L ({ frames := 0, cells := 0, slots := 0, locals := 0 } : Room).cells ({ frames := 0, cells := 0, slots := 0, locals := 0 } : Room).slots) := by
  refine MetFree.of_bodySF (plainFor_of_name pn_1) hisR ?_
  intro p e s m args below meth c s₁ Bd hml0 hP hK
  obtain ⟨rfl, hZ, hh⟩ := hP
  have hx := Bd.exec
  have hby := Bd.bytes
  have hml : c.maxLocals = 1 := hml0
  have hown : s.vm.findClass "com/example/subtree/subtree/index/PlainWords" = some m.cls := findClass_of_methodNamed Bd.named
  have hnm := (name_of_methodNamed Bd.named Bd.method).1
  have X0 : Stand p l e ({ frames := 0, cells := 0, slots := 0, locals := 0 } : Room) s m #[(.ref ax)] below meth c s₁ [] 0 0 := Stand.of_body Bd
  have e0 : s₁.heap = h0 := by rw [← hh, Bd.state]; rfl
  have N0 := Fr.nil n0
  obtain ⟨A0, hA0⟩ : ∃ A, A = s₁.setTop (entryFrame m #[(.ref ax)] 1) := ⟨_, rfl⟩
  have G0 : Go p e below A0 (s₁.setTop (mkF m 0 #[.val (.ref ax)] [])) := fun tq kq => by rw [hA0]; exact castTop (ef_rmL m ax) kq
  have G96 : Go p e below A0 (s₁.setTop (mkF m 1 #[.val (.ref ax)] [(.ref ax)])) := fun tq kq => G0 tq (by
    refine XS.aloadN X0.here hx rfl (hb hby d7_0) rfl rfl ?_
    show Steps p.tables e below (s₁.setTop (mkF m 1 #[.val (.ref ax)] [(.ref ax)])) _
    exact kq)
  obtain ⟨T97, X97, e97, st97⟩ := getF X0 hx hZ hown (host := "") (Or.inl (hw _ (List.mem_of_getElem? (i := 31) rfl))) Via.refl e0 F_length (g := (mkF m 1 #[.val (.ref ax)] [(.ref ax)])) rfl rfl (hb hby d7_1)
  have G98 : Go p e below A0 (T97.setTop (mkF m 4 #[.val (.ref ax)] [(.int oc)])) := fun tq kq => G96 tq (st97 _ kq)
  obtain ⟨fs, hr, hrun, hended, hW, hsame⟩ := X97.leave (v := some (.int oc)) (fun h => by rw [Bd.returns] at h; cases h)
  refine ⟨_, _, (by rw [← hA0]; exact G98 _ (retOut X97 hx (t := .int) Bd.returns rfl (Or.inl ⟨rfl, Or.inl rfl, _, rfl⟩) (hb hby d7_4) hr)), hrun, hended, _, _, rfl, ?_, ⟨_, rfl⟩, hW, hsame.mono (by decide) (by decide)⟩
  exact ⟨rfl, N0, e97⟩
set_option maxRecDepth 65536 in
set_option maxHeartbeats 40000000 in
theorem rmW (l : Launch) (Z : State) (a0 : Array Value) (hw : ∀ d ∈ tables_1, d.before a0 Z = true) (ws : List Jvm.Cond) (ax wb : Addr) (h0 : Heap) (n0 : Nat) (Z0 : n0 ≤ h0.size) (F_word : Fld Z h0 ax "com/example/subtree/subtree/index/PlainWords" "word" "[B" (.ref wb)) :
    MetFree l (⟨"com/example/subtree/subtree/index/PlainWords", "word", "()[B"⟩ : MethodName) (head1 (Jvm.Cond.code (⟨"com/example/subtree/subtree/index/PlainWords", "word", "()[B"⟩ : MethodName) prog_20_method_4_code 1 (some (.array .byte)) :: ws) ({ frames := 0, cells := 0, slots := 0, locals := 0 } : Room)) (fun aa UU => aa = #[(.ref ax)] ∧ Z.Warmed39 UU.vm ∧ UU.heap = h0) (fun _ _ _ _ _ => True) (fun _ UU oo U' => ∃ v L, oo = .returned v ∧ Qr (.ref wb) h0 n0 v U'.heap L ∧ FrameEnd UU oo U' L ({ frames := 0, cells := 0, slots := 0, locals := 0 } : Room).cells ({ frames := 0, cells := 0, slots := 0, locals := 0 } : Room).slots) := by
  refine MetFree.of_bodySF (plainFor_of_name pn_1) hisR ?_
  intro p e s m args below meth c s₁ Bd hml0 hP hK
  obtain ⟨rfl, hZ, hh⟩ := hP
  have hx := Bd.exec
  have hby := Bd.bytes
  have hml : c.maxLocals = 1 := hml0
  have hown : s.vm.findClass "com/example/subtree/subtree/index/PlainWords" = some m.cls := findClass_of_methodNamed Bd.named
  have hnm := (name_of_methodNamed Bd.named Bd.method).1
  have X0 : Stand p l e ({ frames := 0, cells := 0, slots := 0, locals := 0 } : Room) s m #[(.ref ax)] below meth c s₁ [] 0 0 := Stand.of_body Bd
  have e0 : s₁.heap = h0 := by rw [← hh, Bd.state]; rfl
  have N0 := Fr.nil n0
  obtain ⟨A0, hA0⟩ : ∃ A, A = s₁.setTop (entryFrame m #[(.ref ax)] 1) := ⟨_, rfl⟩
  have G0 : Go p e below A0 (s₁.setTop (mkF m 0 #[.val (.ref ax)] [])) := fun tq kq => by rw [hA0]; exact castTop (ef_rmW m ax) kq
  have G99 : Go p e below A0 (s₁.setTop (mkF m 1 #[.val (.ref ax)] [(.ref ax)])) := fun tq kq => G0 tq (by
    refine XS.aloadN X0.here hx rfl (hb hby d9_0) rfl rfl ?_
    show Steps p.tables e below (s₁.setTop (mkF m 1 #[.val (.ref ax)] [(.ref ax)])) _
    exact kq)
  obtain ⟨T100, X100, e100, st100⟩ := getF X0 hx hZ hown (host := "") (Or.inl (hw _ (List.mem_of_getElem? (i := 18) rfl))) Via.refl e0 F_word (g := (mkF m 1 #[.val (.ref ax)] [(.ref ax)])) rfl rfl (hb hby d9_1)
  have G101 : Go p e below A0 (T100.setTop (mkF m 4 #[.val (.ref ax)] [(.ref wb)])) := fun tq kq => G99 tq (st100 _ kq)
  obtain ⟨fs, hr, hrun, hended, hW, hsame⟩ := X100.leave (v := some (.ref wb)) (fun h => by rw [Bd.returns] at h; cases h)
  refine ⟨_, _, (by rw [← hA0]; exact G101 _ (retOut X100 hx (t := (.array .byte)) Bd.returns rfl (Or.inr (Or.inr (Or.inr (Or.inr ⟨rfl, rfl, rfl⟩)))) (hb hby d9_4) hr)), hrun, hended, _, _, rfl, ?_, ⟨_, rfl⟩, hW, hsame.mono (by decide) (by decide)⟩
  exact ⟨rfl, N0, e100⟩
def Qnx (Z : State) (ax tx wb : Addr) (tt : Nat → Int32) (nn sv ev : Int32) (kw : ClassId) (h0 : Heap) (n0 : Nat) (v : Option Value) (h : Heap) (L : List Loc) : Prop := ∃ g' : Nat → Int32, v = some (.int (own_b (¬ sv = nn))) ∧ Fr n0 L ∧ Keep h0 h [ax, wb] ∧ Fld Z h ax "com/example/subtree/subtree/index/PlainWords" "text" "[C" (.ref tx) ∧ Fld Z h ax "com/example/subtree/subtree/index/PlainWords" "at" "I" (.int ev) ∧ Fld Z h ax "com/example/subtree/subtree/index/PlainWords" "to" "I" (.int nn) ∧ Fld Z h ax "com/example/subtree/subtree/index/PlainWords" "length" "I" (.int (ev - sv)) ∧ Fld Z h ax "com/example/subtree/subtree/index/PlainWords" "word" "[B" (.ref wb) ∧ Af Z h wb kw .byte (64 : Int32) (fun i => .int (g' i)) ∧ own_ct tt sv ev g'
set_option maxRecDepth 65536 in
set_option maxHeartbeats 40000000 in
theorem rmX (l : Launch) (Z : State) (a0 : Array Value) (hw : ∀ d ∈ tables_1, d.before a0 Z = true) (ws : List Jvm.Cond) (ax tx wb tb : Addr) (tt gw : Nat → Int32) (ff nn zt sv ev : Int32) (kt kw kb : ClassId) (h0 : Heap) (n0 : Nat) (Z0 : n0 ≤ h0.size) (E : Exa Z h0 ax "com/example/subtree/subtree/index/PlainWords") (gax : n0 ≤ ax) (gwb : n0 ≤ wb) (haw : ax ≠ wb) (hta : tx ≠ ax) (htw : tx ≠ wb) (F_text : Fld Z h0 ax "com/example/subtree/subtree/index/PlainWords" "text" "[C" (.ref tx)) (F_at : Fld Z h0 ax "com/example/subtree/subtree/index/PlainWords" "at" "I" (.int ff)) (F_to : Fld Z h0 ax "com/example/subtree/subtree/index/PlainWords" "to" "I" (.int nn)) (F_length : Fld Z h0 ax "com/example/subtree/subtree/index/PlainWords" "length" "I" (.int (0 : Int32))) (F_word : Fld Z h0 ax "com/example/subtree/subtree/index/PlainWords" "word" "[B" (.ref wb)) (At : Af Z h0 tx kt .char zt (fun i => .int (tt i))) (Aw : Af Z h0 wb kw .byte (64 : Int32) (fun i => .int (gw i))) (hold : Old Z n0 h0) (hSd : Sta Z Z.heap "com/example/subtree/subtree/index/PlainWords" "ASCII_WORD_BYTES" "[B" (.ref tb)) (hAd : Af Z Z.heap tb kb .byte (128 : Int32) (fun i => .int (own_a i.toInt32))) (hz : ¬ ff < 0) (hfn : ¬ nn < ff) (hnz : ¬ zt < nn) (hn3 : ¬ (3 : Int32) < nn) (htt : ∀ i, i < zt.toNatClampNeg → ¬ tt i < 0 ∧ tt i < (128 : Int32)) (hS : sv = own_st tt nn (own_st tt nn (own_st tt nn ff))) (hE : ev = own_en tt nn (own_en tt nn (own_en tt nn sv))) :
    MetFree l (⟨"com/example/subtree/subtree/index/PlainWords", "next", "()Z"⟩ : MethodName) (head1 (Jvm.Cond.code (⟨"com/example/subtree/subtree/index/PlainWords", "next", "()Z"⟩ : MethodName) prog_20_method_3_code 10 (some .boolean) :: ws) ({ frames := 0, cells := 0, slots := 0, locals := 0 } : Room)) (fun aa UU => aa = #[(.ref ax)] ∧ Z.Warmed39 UU.vm ∧ UU.heap = h0) (fun _ _ _ _ _ => True) (fun _ UU oo U' => ∃ v L, oo = .returned v ∧ Qnx Z ax tx wb tt nn sv ev kw h0 n0 v U'.heap L ∧ FrameEnd UU oo U' L ({ frames := 0, cells := 0, slots := 0, locals := 0 } : Room).cells ({ frames := 0, cells := 0, slots := 0, locals := 0 } : Room).slots) := by
  refine MetFree.of_bodySF (plainFor_of_name pn_1) hisR ?_
  intro p e s m args below meth c s₁ Bd hml0 hP hK
  obtain ⟨rfl, hZ, hh⟩ := hP
  have hx := Bd.exec
  have hby := Bd.bytes
  have hml : c.maxLocals = 10 := hml0
  have hown : s.vm.findClass "com/example/subtree/subtree/index/PlainWords" = some m.cls := findClass_of_methodNamed Bd.named
  have hnm := (name_of_methodNamed Bd.named Bd.method).1
  have X0 : Stand p l e ({ frames := 0, cells := 0, slots := 0, locals := 0 } : Room) s m #[(.ref ax)] below meth c s₁ [] 0 0 := Stand.of_body Bd
  have e0 : s₁.heap = h0 := by rw [← hh, Bd.state]; rfl
  have N0 := Fr.nil n0
  obtain ⟨A0, hA0⟩ : ∃ A, A = s₁.setTop (entryFrame m #[(.ref ax)] 10) := ⟨_, rfl⟩
  have G0 : Go p e below A0 (s₁.setTop (mkF m 0 #[.val (.ref ax), .unset, .unset, .unset, .unset, .unset, .unset, .unset, .unset, .unset] [])) := fun tq kq => by rw [hA0]; exact castTop (ef_rmX m ax) kq
  have hAd0 := hAd.ext hold.2
  have G102 : Go p e below A0 (s₁.setTop (mkF m 1 #[.val (.ref ax), .unset, .unset, .unset, .unset, .unset, .unset, .unset, .unset, .unset] [(.ref ax)])) := fun tq kq => G0 tq (by
    refine XS.aloadN X0.here hx rfl (hb hby d6_0) rfl rfl ?_
    show Steps p.tables e below (s₁.setTop (mkF m 1 #[.val (.ref ax), .unset, .unset, .unset, .unset, .unset, .unset, .unset, .unset, .unset] [(.ref ax)])) _
    exact kq)
  obtain ⟨T103, X103, e103, st103⟩ := getF X0 hx hZ hown (host := "") (Or.inl (hw _ (List.mem_of_getElem? (i := 25) rfl))) Via.refl e0 F_text (g := (mkF m 1 #[.val (.ref ax), .unset, .unset, .unset, .unset, .unset, .unset, .unset, .unset, .unset] [(.ref ax)])) rfl rfl (hb hby d6_1)
  have G104 : Go p e below A0 (T103.setTop (mkF m 4 #[.val (.ref ax), .unset, .unset, .unset, .unset, .unset, .unset, .unset, .unset, .unset] [(.ref tx)])) := fun tq kq => G102 tq (st103 _ kq)
  have G105 : Go p e below A0 (T103.setTop (mkF m 6 #[.val (.ref ax), .val (.ref tx), .unset, .unset, .unset, .unset, .unset, .unset, .unset, .unset] [(.ref ax)])) := fun tq kq => G104 tq (by
    refine XS.astoreN X103.here hx rfl (hb hby d6_4) rfl rfl (l' := #[.val (.ref ax), .val (.ref tx), .unset, .unset, .unset, .unset, .unset, .unset, .unset, .unset]) rfl ?_
    show Steps p.tables e below (T103.setTop (mkF m 5 #[.val (.ref ax), .val (.ref tx), .unset, .unset, .unset, .unset, .unset, .unset, .unset, .unset] [])) _
    refine XS.aloadN X103.here hx rfl (hb hby d6_5) rfl rfl ?_
    show Steps p.tables e below (T103.setTop (mkF m 6 #[.val (.ref ax), .val (.ref tx), .unset, .unset, .unset, .unset, .unset, .unset, .unset, .unset] [(.ref ax)])) _
    exact kq)
  obtain ⟨T106, X106, e106, st106⟩ := getF X103 hx hZ hown (host := "") (Or.inl (hw _ (List.mem_of_getElem? (i := 29) rfl))) Via.refl e103 F_to (g := (mkF m 6 #[.val (.ref ax), .val (.ref tx), .unset, .unset, .unset, .unset, .unset, .unset, .unset, .unset] [(.ref ax)])) rfl rfl (hb hby d6_6)
  have G107 : Go p e below A0 (T106.setTop (mkF m 9 #[.val (.ref ax), .val (.ref tx), .unset, .unset, .unset, .unset, .unset, .unset, .unset, .unset] [(.int nn)])) := fun tq kq => G105 tq (st106 _ kq)
  have G108 : Go p e below A0 (T106.setTop (mkF m 11 #[.val (.ref ax), .val (.ref tx), .val (.int nn), .unset, .unset, .unset, .unset, .unset, .unset, .unset] [(.ref ax)])) := fun tq kq => G107 tq (by
    refine XS.istoreN X106.here hx rfl (hb hby d6_9) rfl (l' := #[.val (.ref ax), .val (.ref tx), .val (.int nn), .unset, .unset, .unset, .unset, .unset, .unset, .unset]) rfl ?_
    show Steps p.tables e below (T106.setTop (mkF m 10 #[.val (.ref ax), .val (.ref tx), .val (.int nn), .unset, .unset, .unset, .unset, .unset, .unset, .unset] [])) _
    refine XS.aloadN X106.here hx rfl (hb hby d6_10) rfl rfl ?_
    show Steps p.tables e below (T106.setTop (mkF m 11 #[.val (.ref ax), .val (.ref tx), .val (.int nn), .unset, .unset, .unset, .unset, .unset, .unset, .unset] [(.ref ax)])) _
    exact kq)
  obtain ⟨T109, X109, e109, st109⟩ := getF X106 hx hZ hown (host := "") (Or.inl (hw _ (List.mem_of_getElem? (i := 27) rfl))) Via.refl e106 F_at (g := (mkF m 11 #[.val (.ref ax), .val (.ref tx), .val (.int nn), .unset, .unset, .unset, .unset, .unset, .unset, .unset] [(.ref ax)])) rfl rfl (hb hby d6_11)
  have G110 : Go p e below A0 (T109.setTop (mkF m 14 #[.val (.ref ax), .val (.ref tx), .val (.int nn), .unset, .unset, .unset, .unset, .unset, .unset, .unset] [(.int ff)])) := fun tq kq => G108 tq (st109 _ kq)
  have G111 : Go p e below A0 (T109.setTop (mkF m 17 #[.val (.ref ax), .val (.ref tx), .val (.int nn), .val (.int ff), .unset, .unset, .unset, .unset, .unset, .unset] [(.int nn), (.int ff)])) := fun tq kq => G110 tq (by
    refine XS.istoreN X109.here hx rfl (hb hby d6_14) rfl (l' := #[.val (.ref ax), .val (.ref tx), .val (.int nn), .val (.int ff), .unset, .unset, .unset, .unset, .unset, .unset]) rfl ?_
    show Steps p.tables e below (T109.setTop (mkF m 15 #[.val (.ref ax), .val (.ref tx), .val (.int nn), .val (.int ff), .unset, .unset, .unset, .unset, .unset, .unset] [])) _
    refine XS.iloadN X109.here hx rfl (hb hby d6_15) rfl ?_
    show Steps p.tables e below (T109.setTop (mkF m 16 #[.val (.ref ax), .val (.ref tx), .val (.int nn), .val (.int ff), .unset, .unset, .unset, .unset, .unset, .unset] [(.int ff)])) _
    refine XS.iloadN X109.here hx rfl (hb hby d6_16) rfl ?_
    show Steps p.tables e below (T109.setTop (mkF m 17 #[.val (.ref ax), .val (.ref tx), .val (.int nn), .val (.int ff), .unset, .unset, .unset, .unset, .unset, .unset] [(.int nn), (.int ff)])) _
    exact kq)
  by_cases hc112 : ff < nn
  · have G113 : Go p e below A0 (T109.setTop (mkF m 22 #[.val (.ref ax), .val (.ref tx), .val (.int nn), .val (.int ff), .unset, .unset, .unset, .unset, .unset, .unset] [(.int ff), (.ref tx)])) := fun tq kq => G111 tq (by
      refine XS.icmpNo X109.here hx rfl (hb hby d6_17) rfl (tlt hc112).2.1 ?_
      show Steps p.tables e below (T109.setTop (mkF m 20 #[.val (.ref ax), .val (.ref tx), .val (.int nn), .val (.int ff), .unset, .unset, .unset, .unset, .unset, .unset] [])) _
      refine XS.aloadN X109.here hx rfl (hb hby d6_20) rfl rfl ?_
      show Steps p.tables e below (T109.setTop (mkF m 21 #[.val (.ref ax), .val (.ref tx), .val (.int nn), .val (.int ff), .unset, .unset, .unset, .unset, .unset, .unset] [(.ref tx)])) _
      refine XS.iloadN X109.here hx rfl (hb hby d6_21) rfl ?_
      show Steps p.tables e below (T109.setTop (mkF m 22 #[.val (.ref ax), .val (.ref tx), .val (.int nn), .val (.int ff), .unset, .unset, .unset, .unset, .unset, .unset] [(.int ff), (.ref tx)])) _
      exact kq)
    obtain ⟨cl114, Ar114, q114, S114, M114, H114⟩ := id At
    have i116 : ¬ ff < 0 ∧ ff < zt := ⟨hz, own_ltt hc112 hnz⟩
    have ri116 := htt _ (own_natl i116.1 i116.2)
    have zi116 := own_pos hz hc112
    have li116 := own_nlt1 hc112
    have hi115 : ¬ (ff < 0 ∨ cl114.slots.size ≤ (ff).toNatClampNeg) := (inb_of S114 i116)
    have G117 : Go p e below A0 (T109.setTop (mkF m 33 #[.val (.ref ax), .val (.ref tx), .val (.int nn), .val (.int ff), .val (.int (tt (ff).toNatClampNeg)), .unset, .unset, .unset, .unset, .unset] [])) := fun tq kq => G113 tq (by
      refine X109.caload hx (j := ff) (v := (.int (tt (ff).toNatClampNeg))) (by rw [e109]; exact Ar114.1) (State.isArrayOf_alike hZ.alike Ar114.2.1) Ar114.2.2 hi115 ((H114 _ (S114 ▸ Nat.lt_of_not_le fun y => hi115 (Or.inr y))).trans (congrArg some rfl)) (g := (mkF m 22 #[.val (.ref ax), .val (.ref tx), .val (.int nn), .val (.int ff), .unset, .unset, .unset, .unset, .unset, .unset] [(.int ff), (.ref tx)])) rfl rfl (hb hby d6_22) _ ?_
      show Steps p.tables e below (T109.setTop (mkF m 23 #[.val (.ref ax), .val (.ref tx), .val (.int nn), .val (.int ff), .unset, .unset, .unset, .unset, .unset, .unset] [(.int (tt (ff).toNatClampNeg))])) _
      refine XS.istore X109.here hx rfl (hb hby d6_23) rfl (l' := #[.val (.ref ax), .val (.ref tx), .val (.int nn), .val (.int ff), .val (.int (tt (ff).toNatClampNeg)), .unset, .unset, .unset, .unset, .unset]) rfl ?_
      show Steps p.tables e below (T109.setTop (mkF m 25 #[.val (.ref ax), .val (.ref tx), .val (.int nn), .val (.int ff), .val (.int (tt (ff).toNatClampNeg)), .unset, .unset, .unset, .unset, .unset] [])) _
      refine XS.iload X109.here hx rfl (hb hby d6_25) rfl ?_
      show Steps p.tables e below (T109.setTop (mkF m 27 #[.val (.ref ax), .val (.ref tx), .val (.int nn), .val (.int ff), .val (.int (tt (ff).toNatClampNeg)), .unset, .unset, .unset, .unset, .unset] [(.int (tt (ff).toNatClampNeg))])) _
      refine XS.sipush X109.here hx rfl (hb hby d6_27) ?_
      show Steps p.tables e below (T109.setTop (mkF m 30 #[.val (.ref ax), .val (.ref tx), .val (.int nn), .val (.int ff), .val (.int (tt (ff).toNatClampNeg)), .unset, .unset, .unset, .unset, .unset] [(.int (128 : Int32)), (.int (tt (ff).toNatClampNeg))])) _
      refine XS.icmpNo X109.here hx rfl (hb hby d6_30) rfl (tlt ri116.2).2.1 ?_
      show Steps p.tables e below (T109.setTop (mkF m 33 #[.val (.ref ax), .val (.ref tx), .val (.int nn), .val (.int ff), .val (.int (tt (ff).toNatClampNeg)), .unset, .unset, .unset, .unset, .unset] [])) _
      exact kq)
    obtain ⟨T118, X118, e118, st118⟩ := getS2 X109 hx hZ hown (host := "") (Or.inl (hw _ (List.mem_of_getElem? (i := 38) rfl))) Via.refl e109 (hSd.ext hold.2) (g := (mkF m 33 #[.val (.ref ax), .val (.ref tx), .val (.int nn), .val (.int ff), .val (.int (tt (ff).toNatClampNeg)), .unset, .unset, .unset, .unset, .unset] [])) rfl (hb hby d6_33)
    have G119 : Go p e below A0 (T118.setTop (mkF m 36 #[.val (.ref ax), .val (.ref tx), .val (.int nn), .val (.int ff), .val (.int (tt (ff).toNatClampNeg)), .unset, .unset, .unset, .unset, .unset] [(.ref tb)])) := fun tq kq => G117 tq (st118 _ kq)
    have G120 : Go p e below A0 (T118.setTop (mkF m 38 #[.val (.ref ax), .val (.ref tx), .val (.int nn), .val (.int ff), .val (.int (tt (ff).toNatClampNeg)), .unset, .unset, .unset, .unset, .unset] [(.int (tt (ff).toNatClampNeg)), (.ref tb)])) := fun tq kq => G119 tq (by
      refine XS.iload X118.here hx rfl (hb hby d6_36) rfl ?_
      show Steps p.tables e below (T118.setTop (mkF m 38 #[.val (.ref ax), .val (.ref tx), .val (.int nn), .val (.int ff), .val (.int (tt (ff).toNatClampNeg)), .unset, .unset, .unset, .unset, .unset] [(.int (tt (ff).toNatClampNeg)), (.ref tb)])) _
      exact kq)
    obtain ⟨cl121, Ar121, q121, S121, M121, H121⟩ := id hAd0
    have hi122 : ¬ ((tt (ff).toNatClampNeg) < 0 ∨ cl121.slots.size ≤ ((tt (ff).toNatClampNeg)).toNatClampNeg) := (inb_of S121 ri116)
    have G123 : Go p e below A0 (T118.setTop (mkF m 39 #[.val (.ref ax), .val (.ref tx), .val (.int nn), .val (.int ff), .val (.int (tt (ff).toNatClampNeg)), .unset, .unset, .unset, .unset, .unset] [(.int (own_a (tt (ff).toNatClampNeg)))])) := fun tq kq => G120 tq (by
      refine X118.baloadBytes hx (j := (tt (ff).toNatClampNeg)) (v := (.int (own_a (tt (ff).toNatClampNeg)))) (by rw [e118]; exact Ar121.1) (State.isArrayOf_alike hZ.alike Ar121.2.1) Ar121.2.2 hi122 ((H121 _ (S121 ▸ Nat.lt_of_not_le fun y => hi122 (Or.inr y))).trans (congrArg some (congrArg (fun q => Value.int (own_a q)) (own_back ri116.1)))) (g := (mkF m 38 #[.val (.ref ax), .val (.ref tx), .val (.int nn), .val (.int ff), .val (.int (tt (ff).toNatClampNeg)), .unset, .unset, .unset, .unset, .unset] [(.int (tt (ff).toNatClampNeg)), (.ref tb)])) rfl rfl (hb hby d6_38) _ ?_
      show Steps p.tables e below (T118.setTop (mkF m 39 #[.val (.ref ax), .val (.ref tx), .val (.int nn), .val (.int ff), .val (.int (tt (ff).toNatClampNeg)), .unset, .unset, .unset, .unset, .unset] [(.int (own_a (tt (ff).toNatClampNeg)))])) _
      exact kq)
    by_cases hc124 : (own_W (tt (ff).toNatClampNeg))
    · have G125 : Go p e below A0 (T118.setTop (mkF m 89 #[.val (.ref ax), .val (.ref tx), .val (.int nn), .val (.int ff), .val (.int (tt (ff).toNatClampNeg)), .unset, .unset, .unset, .unset, .unset] [(.int ff), (.ref ax)])) := fun tq kq => G123 tq (by
        refine XS.ifNo X118.here hx rfl (hb hby d6_39) rfl ((if0 _ _).trans (feq (own_a1 hc124)).1) ?_
        show Steps p.tables e below (T118.setTop (mkF m 42 #[.val (.ref ax), .val (.ref tx), .val (.int nn), .val (.int ff), .val (.int (tt (ff).toNatClampNeg)), .unset, .unset, .unset, .unset, .unset] [])) _
        refine XS.goto X118.here hx rfl (pc0 := 42) (pc' := 87) rfl (hb hby d6_42) (by decide) (by decide) ?_
        show Steps p.tables e below (T118.setTop (mkF m 87 #[.val (.ref ax), .val (.ref tx), .val (.int nn), .val (.int ff), .val (.int (tt (ff).toNatClampNeg)), .unset, .unset, .unset, .unset, .unset] [])) _
        refine XS.aloadN X118.here hx rfl (hb hby d6_87) rfl rfl ?_
        show Steps p.tables e below (T118.setTop (mkF m 88 #[.val (.ref ax), .val (.ref tx), .val (.int nn), .val (.int ff), .val (.int (tt (ff).toNatClampNeg)), .unset, .unset, .unset, .unset, .unset] [(.ref ax)])) _
        refine XS.iloadN X118.here hx rfl (hb hby d6_88) rfl ?_
        show Steps p.tables e below (T118.setTop (mkF m 89 #[.val (.ref ax), .val (.ref tx), .val (.int nn), .val (.int ff), .val (.int (tt (ff).toNatClampNeg)), .unset, .unset, .unset, .unset, .unset] [(.int ff), (.ref ax)])) _
        exact kq)
      obtain ⟨T126, h126, X126, e126, W126, st126⟩ := putF X118 hx hZ hown (host := "") (Or.inl (hw _ (List.mem_of_getElem? (i := 27) rfl))) Via.refl e118 F_at E (Or.inl (hw _ (List.mem_of_getElem? (i := 28) rfl))) (hw _ (List.mem_of_getElem? (i := 9) rfl)) (ty := .int) (by decide) rfl rfl (g := (mkF m 89 #[.val (.ref ax), .val (.ref tx), .val (.int nn), .val (.int ff), .val (.int (tt (ff).toNatClampNeg)), .unset, .unset, .unset, .unset, .unset] [(.int ff), (.ref ax)])) rfl rfl (hb hby d6_89)
      have N126 := Fr.snoc X126 N0 gax
      have fw126 := F_at.same W126
      have G127 : Go p e below A0 (T126.setTop (mkF m 92 #[.val (.ref ax), .val (.ref tx), .val (.int nn), .val (.int ff), .val (.int (tt (ff).toNatClampNeg)), .unset, .unset, .unset, .unset, .unset] [])) := fun tq kq => G125 tq (st126 _ kq)
      have G128 : Go p e below A0 (T126.setTop (mkF m 106 #[.val (.ref ax), .val (.ref tx), .val (.int nn), .val (.int ff), .val (.int ff), .val (.int (1 : Int32)), .unset, .unset, .unset, .unset] [(.ref ax)])) := fun tq kq => G127 tq (by
        refine XS.iloadN X126.here hx rfl (hb hby d6_92) rfl ?_
        show Steps p.tables e below (T126.setTop (mkF m 93 #[.val (.ref ax), .val (.ref tx), .val (.int nn), .val (.int ff), .val (.int (tt (ff).toNatClampNeg)), .unset, .unset, .unset, .unset, .unset] [(.int ff)])) _
        refine XS.iloadN X126.here hx rfl (hb hby d6_93) rfl ?_
        show Steps p.tables e below (T126.setTop (mkF m 94 #[.val (.ref ax), .val (.ref tx), .val (.int nn), .val (.int ff), .val (.int (tt (ff).toNatClampNeg)), .unset, .unset, .unset, .unset, .unset] [(.int nn), (.int ff)])) _
        refine XS.icmpYes X126.here hx rfl (pc0 := 94) (pc' := 99) rfl (hb hby d6_94) rfl (feq (own_ltne hc112)).2 (by decide) (by decide) ?_
        show Steps p.tables e below (T126.setTop (mkF m 99 #[.val (.ref ax), .val (.ref tx), .val (.int nn), .val (.int ff), .val (.int (tt (ff).toNatClampNeg)), .unset, .unset, .unset, .unset, .unset] [])) _
        refine XS.iloadN X126.here hx rfl (hb hby d6_99) rfl ?_
        show Steps p.tables e below (T126.setTop (mkF m 100 #[.val (.ref ax), .val (.ref tx), .val (.int nn), .val (.int ff), .val (.int (tt (ff).toNatClampNeg)), .unset, .unset, .unset, .unset, .unset] [(.int ff)])) _
        refine XS.istore X126.here hx rfl (hb hby d6_100) rfl (l' := #[.val (.ref ax), .val (.ref tx), .val (.int nn), .val (.int ff), .val (.int ff), .unset, .unset, .unset, .unset, .unset]) rfl ?_
        show Steps p.tables e below (T126.setTop (mkF m 102 #[.val (.ref ax), .val (.ref tx), .val (.int nn), .val (.int ff), .val (.int ff), .unset, .unset, .unset, .unset, .unset] [])) _
        refine XS.iconst X126.here hx rfl (hb hby d6_102) ?_
        show Steps p.tables e below (T126.setTop (mkF m 103 #[.val (.ref ax), .val (.ref tx), .val (.int nn), .val (.int ff), .val (.int ff), .unset, .unset, .unset, .unset, .unset] [(.int (1 : Int32))])) _
        refine XS.istore X126.here hx rfl (hb hby d6_103) rfl (l' := #[.val (.ref ax), .val (.ref tx), .val (.int nn), .val (.int ff), .val (.int ff), .val (.int (1 : Int32)), .unset, .unset, .unset, .unset]) rfl ?_
        show Steps p.tables e below (T126.setTop (mkF m 105 #[.val (.ref ax), .val (.ref tx), .val (.int nn), .val (.int ff), .val (.int ff), .val (.int (1 : Int32)), .unset, .unset, .unset, .unset] [])) _
        refine XS.aloadN X126.here hx rfl (hb hby d6_105) rfl rfl ?_
        show Steps p.tables e below (T126.setTop (mkF m 106 #[.val (.ref ax), .val (.ref tx), .val (.int nn), .val (.int ff), .val (.int ff), .val (.int (1 : Int32)), .unset, .unset, .unset, .unset] [(.ref ax)])) _
        exact kq)
      have f129 := (F_word.other W126 (Or.inr (slot_ne (Or.inl (hw _ (List.mem_of_getElem? (i := 19) rfl))) (Or.inl (hw _ (List.mem_of_getElem? (i := 28) rfl))) (by decide) (t := (.array .byte)) (t' := .int) (by decide) (by decide))))
      obtain ⟨T130, X130, e130, st130⟩ := getF X126 hx hZ hown (host := "") (Or.inl (hw _ (List.mem_of_getElem? (i := 18) rfl))) Via.refl e126 f129 (g := (mkF m 106 #[.val (.ref ax), .val (.ref tx), .val (.int nn), .val (.int ff), .val (.int ff), .val (.int (1 : Int32)), .unset, .unset, .unset, .unset] [(.ref ax)])) rfl rfl (hb hby d6_106)
      have G131 : Go p e below A0 (T130.setTop (mkF m 109 #[.val (.ref ax), .val (.ref tx), .val (.int nn), .val (.int ff), .val (.int ff), .val (.int (1 : Int32)), .unset, .unset, .unset, .unset] [(.ref wb)])) := fun tq kq => G128 tq (st130 _ kq)
      have G132 : Go p e below A0 (T130.setTop (mkF m 121 #[.val (.ref ax), .val (.ref tx), .val (.int nn), .val (.int ff), .val (.int ff), .val (.int (1 : Int32)), .val (.ref wb), .val (.int (0 : Int32)), .unset, .unset] [(.int ff), (.ref tx)])) := fun tq kq => G131 tq (by
        refine XS.astore X130.here hx rfl (hb hby d6_109) rfl rfl (l' := #[.val (.ref ax), .val (.ref tx), .val (.int nn), .val (.int ff), .val (.int ff), .val (.int (1 : Int32)), .val (.ref wb), .unset, .unset, .unset]) rfl ?_
        show Steps p.tables e below (T130.setTop (mkF m 111 #[.val (.ref ax), .val (.ref tx), .val (.int nn), .val (.int ff), .val (.int ff), .val (.int (1 : Int32)), .val (.ref wb), .unset, .unset, .unset] [])) _
        refine XS.iconst X130.here hx rfl (hb hby d6_111) ?_
        show Steps p.tables e below (T130.setTop (mkF m 112 #[.val (.ref ax), .val (.ref tx), .val (.int nn), .val (.int ff), .val (.int ff), .val (.int (1 : Int32)), .val (.ref wb), .unset, .unset, .unset] [(.int (0 : Int32))])) _
        refine XS.istore X130.here hx rfl (hb hby d6_112) rfl (l' := #[.val (.ref ax), .val (.ref tx), .val (.int nn), .val (.int ff), .val (.int ff), .val (.int (1 : Int32)), .val (.ref wb), .val (.int (0 : Int32)), .unset, .unset]) rfl ?_
        show Steps p.tables e below (T130.setTop (mkF m 114 #[.val (.ref ax), .val (.ref tx), .val (.int nn), .val (.int ff), .val (.int ff), .val (.int (1 : Int32)), .val (.ref wb), .val (.int (0 : Int32)), .unset, .unset] [])) _
        refine XS.iloadN X130.here hx rfl (hb hby d6_114) rfl ?_
        show Steps p.tables e below (T130.setTop (mkF m 115 #[.val (.ref ax), .val (.ref tx), .val (.int nn), .val (.int ff), .val (.int ff), .val (.int (1 : Int32)), .val (.ref wb), .val (.int (0 : Int32)), .unset, .unset] [(.int ff)])) _
        refine XS.iloadN X130.here hx rfl (hb hby d6_115) rfl ?_
        show Steps p.tables e below (T130.setTop (mkF m 116 #[.val (.ref ax), .val (.ref tx), .val (.int nn), .val (.int ff), .val (.int ff), .val (.int (1 : Int32)), .val (.ref wb), .val (.int (0 : Int32)), .unset, .unset] [(.int nn), (.int ff)])) _
        refine XS.icmpNo X130.here hx rfl (hb hby d6_116) rfl (tlt hc112).2.1 ?_
        show Steps p.tables e below (T130.setTop (mkF m 119 #[.val (.ref ax), .val (.ref tx), .val (.int nn), .val (.int ff), .val (.int ff), .val (.int (1 : Int32)), .val (.ref wb), .val (.int (0 : Int32)), .unset, .unset] [])) _
        refine XS.aloadN X130.here hx rfl (hb hby d6_119) rfl rfl ?_
        show Steps p.tables e below (T130.setTop (mkF m 120 #[.val (.ref ax), .val (.ref tx), .val (.int nn), .val (.int ff), .val (.int ff), .val (.int (1 : Int32)), .val (.ref wb), .val (.int (0 : Int32)), .unset, .unset] [(.ref tx)])) _
        refine XS.iloadN X130.here hx rfl (hb hby d6_120) rfl ?_
        show Steps p.tables e below (T130.setTop (mkF m 121 #[.val (.ref ax), .val (.ref tx), .val (.int nn), .val (.int ff), .val (.int ff), .val (.int (1 : Int32)), .val (.ref wb), .val (.int (0 : Int32)), .unset, .unset] [(.int ff), (.ref tx)])) _
        exact kq)
      have f133 := (At.other W126 hta)
      obtain ⟨cl134, Ar134, q134, S134, M134, H134⟩ := id f133
      have i136 : ¬ ff < 0 ∧ ff < zt := ⟨hz, own_ltt hc112 hnz⟩
      have ri136 := htt _ (own_natl i136.1 i136.2)
      have zi136 := own_pos hz hc112
      have li136 := own_nlt1 hc112
      have hi135 : ¬ (ff < 0 ∨ cl134.slots.size ≤ (ff).toNatClampNeg) := (inb_of S134 i136)
      have G137 : Go p e below A0 (T130.setTop (mkF m 132 #[.val (.ref ax), .val (.ref tx), .val (.int nn), .val (.int ff), .val (.int ff), .val (.int (1 : Int32)), .val (.ref wb), .val (.int (0 : Int32)), .val (.int (tt (ff).toNatClampNeg)), .unset] [])) := fun tq kq => G132 tq (by
        refine X130.caload hx (j := ff) (v := (.int (tt (ff).toNatClampNeg))) (by rw [e130]; exact Ar134.1) (State.isArrayOf_alike hZ.alike Ar134.2.1) Ar134.2.2 hi135 ((H134 _ (S134 ▸ Nat.lt_of_not_le fun y => hi135 (Or.inr y))).trans (congrArg some rfl)) (g := (mkF m 121 #[.val (.ref ax), .val (.ref tx), .val (.int nn), .val (.int ff), .val (.int ff), .val (.int (1 : Int32)), .val (.ref wb), .val (.int (0 : Int32)), .unset, .unset] [(.int ff), (.ref tx)])) rfl rfl (hb hby d6_121) _ ?_
        show Steps p.tables e below (T130.setTop (mkF m 122 #[.val (.ref ax), .val (.ref tx), .val (.int nn), .val (.int ff), .val (.int ff), .val (.int (1 : Int32)), .val (.ref wb), .val (.int (0 : Int32)), .unset, .unset] [(.int (tt (ff).toNatClampNeg))])) _
        refine XS.istore X130.here hx rfl (hb hby d6_122) rfl (l' := #[.val (.ref ax), .val (.ref tx), .val (.int nn), .val (.int ff), .val (.int ff), .val (.int (1 : Int32)), .val (.ref wb), .val (.int (0 : Int32)), .val (.int (tt (ff).toNatClampNeg)), .unset]) rfl ?_
        show Steps p.tables e below (T130.setTop (mkF m 124 #[.val (.ref ax), .val (.ref tx), .val (.int nn), .val (.int ff), .val (.int ff), .val (.int (1 : Int32)), .val (.ref wb), .val (.int (0 : Int32)), .val (.int (tt (ff).toNatClampNeg)), .unset] [])) _
        refine XS.iload X130.here hx rfl (hb hby d6_124) rfl ?_
        show Steps p.tables e below (T130.setTop (mkF m 126 #[.val (.ref ax), .val (.ref tx), .val (.int nn), .val (.int ff), .val (.int ff), .val (.int (1 : Int32)), .val (.ref wb), .val (.int (0 : Int32)), .val (.int (tt (ff).toNatClampNeg)), .unset] [(.int (tt (ff).toNatClampNeg))])) _
        refine XS.sipush X130.here hx rfl (hb hby d6_126) ?_
        show Steps p.tables e below (T130.setTop (mkF m 129 #[.val (.ref ax), .val (.ref tx), .val (.int nn), .val (.int ff), .val (.int ff), .val (.int (1 : Int32)), .val (.ref wb), .val (.int (0 : Int32)), .val (.int (tt (ff).toNatClampNeg)), .unset] [(.int (128 : Int32)), (.int (tt (ff).toNatClampNeg))])) _
        refine XS.icmpNo X130.here hx rfl (hb hby d6_129) rfl (tlt ri136.2).2.1 ?_
        show Steps p.tables e below (T130.setTop (mkF m 132 #[.val (.ref ax), .val (.ref tx), .val (.int nn), .val (.int ff), .val (.int ff), .val (.int (1 : Int32)), .val (.ref wb), .val (.int (0 : Int32)), .val (.int (tt (ff).toNatClampNeg)), .unset] [])) _
        exact kq)
      obtain ⟨T138, X138, e138, st138⟩ := getS2 X130 hx hZ hown (host := "") (Or.inl (hw _ (List.mem_of_getElem? (i := 38) rfl))) Via.refl e130 (hSd.ext (hold.wr W126 gax).2) (g := (mkF m 132 #[.val (.ref ax), .val (.ref tx), .val (.int nn), .val (.int ff), .val (.int ff), .val (.int (1 : Int32)), .val (.ref wb), .val (.int (0 : Int32)), .val (.int (tt (ff).toNatClampNeg)), .unset] [])) rfl (hb hby d6_132)
      have G139 : Go p e below A0 (T138.setTop (mkF m 135 #[.val (.ref ax), .val (.ref tx), .val (.int nn), .val (.int ff), .val (.int ff), .val (.int (1 : Int32)), .val (.ref wb), .val (.int (0 : Int32)), .val (.int (tt (ff).toNatClampNeg)), .unset] [(.ref tb)])) := fun tq kq => G137 tq (st138 _ kq)
      have G140 : Go p e below A0 (T138.setTop (mkF m 137 #[.val (.ref ax), .val (.ref tx), .val (.int nn), .val (.int ff), .val (.int ff), .val (.int (1 : Int32)), .val (.ref wb), .val (.int (0 : Int32)), .val (.int (tt (ff).toNatClampNeg)), .unset] [(.int (tt (ff).toNatClampNeg)), (.ref tb)])) := fun tq kq => G139 tq (by
        refine XS.iload X138.here hx rfl (hb hby d6_135) rfl ?_
        show Steps p.tables e below (T138.setTop (mkF m 137 #[.val (.ref ax), .val (.ref tx), .val (.int nn), .val (.int ff), .val (.int ff), .val (.int (1 : Int32)), .val (.ref wb), .val (.int (0 : Int32)), .val (.int (tt (ff).toNatClampNeg)), .unset] [(.int (tt (ff).toNatClampNeg)), (.ref tb)])) _
        exact kq)
      have f141 := (hAd0.other W126 (hold.ne hAd.lt gax))
      obtain ⟨cl142, Ar142, q142, S142, M142, H142⟩ := id f141
      have hi143 : ¬ ((tt (ff).toNatClampNeg) < 0 ∨ cl142.slots.size ≤ ((tt (ff).toNatClampNeg)).toNatClampNeg) := (inb_of S142 ri136)
      have G144 : Go p e below A0 (T138.setTop (mkF m 152 #[.val (.ref ax), .val (.ref tx), .val (.int nn), .val (.int ff), .val (.int ff), .val (.int (1 : Int32)), .val (.ref wb), .val (.int (0 : Int32)), .val (.int (tt (ff).toNatClampNeg)), .val (.int (own_a (tt (ff).toNatClampNeg)))] [(.ref wb), (.int (0 : Int32))])) := fun tq kq => G140 tq (by
        refine X138.baloadBytes hx (j := (tt (ff).toNatClampNeg)) (v := (.int (own_a (tt (ff).toNatClampNeg)))) (by rw [e138]; exact Ar142.1) (State.isArrayOf_alike hZ.alike Ar142.2.1) Ar142.2.2 hi143 ((H142 _ (S142 ▸ Nat.lt_of_not_le fun y => hi143 (Or.inr y))).trans (congrArg some (congrArg (fun q => Value.int (own_a q)) (own_back ri136.1)))) (g := (mkF m 137 #[.val (.ref ax), .val (.ref tx), .val (.int nn), .val (.int ff), .val (.int ff), .val (.int (1 : Int32)), .val (.ref wb), .val (.int (0 : Int32)), .val (.int (tt (ff).toNatClampNeg)), .unset] [(.int (tt (ff).toNatClampNeg)), (.ref tb)])) rfl rfl (hb hby d6_137) _ ?_
        show Steps p.tables e below (T138.setTop (mkF m 138 #[.val (.ref ax), .val (.ref tx), .val (.int nn), .val (.int ff), .val (.int ff), .val (.int (1 : Int32)), .val (.ref wb), .val (.int (0 : Int32)), .val (.int (tt (ff).toNatClampNeg)), .unset] [(.int (own_a (tt (ff).toNatClampNeg)))])) _
        refine XS.istore X138.here hx rfl (hb hby d6_138) rfl (l' := #[.val (.ref ax), .val (.ref tx), .val (.int nn), .val (.int ff), .val (.int ff), .val (.int (1 : Int32)), .val (.ref wb), .val (.int (0 : Int32)), .val (.int (tt (ff).toNatClampNeg)), .val (.int (own_a (tt (ff).toNatClampNeg)))]) rfl ?_
        show Steps p.tables e below (T138.setTop (mkF m 140 #[.val (.ref ax), .val (.ref tx), .val (.int nn), .val (.int ff), .val (.int ff), .val (.int (1 : Int32)), .val (.ref wb), .val (.int (0 : Int32)), .val (.int (tt (ff).toNatClampNeg)), .val (.int (own_a (tt (ff).toNatClampNeg)))] [])) _
        refine XS.iload X138.here hx rfl (hb hby d6_140) rfl ?_
        show Steps p.tables e below (T138.setTop (mkF m 142 #[.val (.ref ax), .val (.ref tx), .val (.int nn), .val (.int ff), .val (.int ff), .val (.int (1 : Int32)), .val (.ref wb), .val (.int (0 : Int32)), .val (.int (tt (ff).toNatClampNeg)), .val (.int (own_a (tt (ff).toNatClampNeg)))] [(.int (own_a (tt (ff).toNatClampNeg)))])) _
        refine XS.ifYes X138.here hx rfl (pc0 := 142) (pc' := 148) rfl (hb hby d6_142) rfl ((if0 _ _).trans (feq (own_a1 hc124)).2) (by decide) (by decide) ?_
        show Steps p.tables e below (T138.setTop (mkF m 148 #[.val (.ref ax), .val (.ref tx), .val (.int nn), .val (.int ff), .val (.int ff), .val (.int (1 : Int32)), .val (.ref wb), .val (.int (0 : Int32)), .val (.int (tt (ff).toNatClampNeg)), .val (.int (own_a (tt (ff).toNatClampNeg)))] [])) _
        refine XS.iload X138.here hx rfl (hb hby d6_148) rfl ?_
        show Steps p.tables e below (T138.setTop (mkF m 150 #[.val (.ref ax), .val (.ref tx), .val (.int nn), .val (.int ff), .val (.int ff), .val (.int (1 : Int32)), .val (.ref wb), .val (.int (0 : Int32)), .val (.int (tt (ff).toNatClampNeg)), .val (.int (own_a (tt (ff).toNatClampNeg)))] [(.int (0 : Int32))])) _
        refine XS.aload X138.here hx rfl (hb hby d6_150) rfl rfl ?_
        show Steps p.tables e below (T138.setTop (mkF m 152 #[.val (.ref ax), .val (.ref tx), .val (.int nn), .val (.int ff), .val (.int ff), .val (.int (1 : Int32)), .val (.ref wb), .val (.int (0 : Int32)), .val (.int (tt (ff).toNatClampNeg)), .val (.int (own_a (tt (ff).toNatClampNeg)))] [(.ref wb), (.int (0 : Int32))])) _
        exact kq)
      have f145 := (Aw.other W126 (Ne.symm haw))
      obtain ⟨cl146, Ar146, q146, S146, M146, H146⟩ := id f145
      have G147 : Go p e below A0 (T138.setTop (mkF m 176 #[.val (.ref ax), .val (.ref tx), .val (.int nn), .val (.int ff), .val (.int ff), .val (.int (1 : Int32)), .val (.ref wb), .val (.int (1 : Int32)), .val (.int (tt (ff).toNatClampNeg)), .val (.int (own_a (tt (ff).toNatClampNeg)))] [(.int (own_a (tt (ff).toNatClampNeg))), (.int (0 : Int32)), (.ref wb)])) := fun tq kq => G144 tq (by
        refine X138.arraylength hx (by rw [e138]; exact Ar146.1) (State.isArrayOf_alike hZ.alike Ar146.2.1) (g := (mkF m 152 #[.val (.ref ax), .val (.ref tx), .val (.int nn), .val (.int ff), .val (.int ff), .val (.int (1 : Int32)), .val (.ref wb), .val (.int (0 : Int32)), .val (.int (tt (ff).toNatClampNeg)), .val (.int (own_a (tt (ff).toNatClampNeg)))] [(.ref wb), (.int (0 : Int32))])) rfl rfl (hb hby d6_152) _ ?_
        rw [len_of S146 M146]
        show Steps p.tables e below (T138.setTop (mkF m 153 #[.val (.ref ax), .val (.ref tx), .val (.int nn), .val (.int ff), .val (.int ff), .val (.int (1 : Int32)), .val (.ref wb), .val (.int (0 : Int32)), .val (.int (tt (ff).toNatClampNeg)), .val (.int (own_a (tt (ff).toNatClampNeg)))] [(.int (64 : Int32)), (.int (0 : Int32))])) _
        refine XS.icmpYes X138.here hx rfl (pc0 := 153) (pc' := 167) rfl (hb hby d6_153) rfl (by decide) (by decide) (by decide) ?_
        show Steps p.tables e below (T138.setTop (mkF m 167 #[.val (.ref ax), .val (.ref tx), .val (.int nn), .val (.int ff), .val (.int ff), .val (.int (1 : Int32)), .val (.ref wb), .val (.int (0 : Int32)), .val (.int (tt (ff).toNatClampNeg)), .val (.int (own_a (tt (ff).toNatClampNeg)))] [])) _
        refine XS.aload X138.here hx rfl (hb hby d6_167) rfl rfl ?_
        show Steps p.tables e below (T138.setTop (mkF m 169 #[.val (.ref ax), .val (.ref tx), .val (.int nn), .val (.int ff), .val (.int ff), .val (.int (1 : Int32)), .val (.ref wb), .val (.int (0 : Int32)), .val (.int (tt (ff).toNatClampNeg)), .val (.int (own_a (tt (ff).toNatClampNeg)))] [(.ref wb)])) _
        refine XS.iload X138.here hx rfl (hb hby d6_169) rfl ?_
        show Steps p.tables e below (T138.setTop (mkF m 171 #[.val (.ref ax), .val (.ref tx), .val (.int nn), .val (.int ff), .val (.int ff), .val (.int (1 : Int32)), .val (.ref wb), .val (.int (0 : Int32)), .val (.int (tt (ff).toNatClampNeg)), .val (.int (own_a (tt (ff).toNatClampNeg)))] [(.int (0 : Int32)), (.ref wb)])) _
        refine XS.iinc X138.here hx rfl (hb hby d6_171) rfl (l' := #[.val (.ref ax), .val (.ref tx), .val (.int nn), .val (.int ff), .val (.int ff), .val (.int (1 : Int32)), .val (.ref wb), .val (.int ((0 : Int32) + (1 : Int32))), .val (.int (tt (ff).toNatClampNeg)), .val (.int (own_a (tt (ff).toNatClampNeg)))]) rfl ?_
        show Steps p.tables e below (T138.setTop (mkF m 174 #[.val (.ref ax), .val (.ref tx), .val (.int nn), .val (.int ff), .val (.int ff), .val (.int (1 : Int32)), .val (.ref wb), .val (.int ((0 : Int32) + (1 : Int32))), .val (.int (tt (ff).toNatClampNeg)), .val (.int (own_a (tt (ff).toNatClampNeg)))] [(.int (0 : Int32)), (.ref wb)])) _
        rw [show ((0 : Int32) + (1 : Int32)) = (1 : Int32) from (by decide : ((0 : Int32) + (1 : Int32)) = (1 : Int32))]
        show Steps p.tables e below (T138.setTop (mkF m 174 #[.val (.ref ax), .val (.ref tx), .val (.int nn), .val (.int ff), .val (.int ff), .val (.int (1 : Int32)), .val (.ref wb), .val (.int (1 : Int32)), .val (.int (tt (ff).toNatClampNeg)), .val (.int (own_a (tt (ff).toNatClampNeg)))] [(.int (0 : Int32)), (.ref wb)])) _
        refine XS.iload X138.here hx rfl (hb hby d6_174) rfl ?_
        show Steps p.tables e below (T138.setTop (mkF m 176 #[.val (.ref ax), .val (.ref tx), .val (.int nn), .val (.int ff), .val (.int ff), .val (.int (1 : Int32)), .val (.ref wb), .val (.int (1 : Int32)), .val (.int (tt (ff).toNatClampNeg)), .val (.int (own_a (tt (ff).toNatClampNeg)))] [(.int (own_a (tt (ff).toNatClampNeg))), (.int (0 : Int32)), (.ref wb)])) _
        exact kq)
      obtain ⟨cl148, Ar148, q148, S148, M148, H148⟩ := id f145
      have hi149 : ¬ ((0 : Int32) < 0 ∨ cl148.slots.size ≤ ((0 : Int32)).toNatClampNeg) := (inb_of S148 ⟨by decide, by decide⟩)
      obtain ⟨T150, h150, X150, e150, W150, st150⟩ := stB X138 hx hZ e138 Ar148 (j := (0 : Int32)) hi149 (g := (mkF m 176 #[.val (.ref ax), .val (.ref tx), .val (.int nn), .val (.int ff), .val (.int ff), .val (.int (1 : Int32)), .val (.ref wb), .val (.int (1 : Int32)), .val (.int (tt (ff).toNatClampNeg)), .val (.int (own_a (tt (ff).toNatClampNeg)))] [(.int (own_a (tt (ff).toNatClampNeg))), (.int (0 : Int32)), (.ref wb)])) rfl rfl (hb hby d6_176)
      rw [show nar .byte (own_a (tt (ff).toNatClampNeg)) = (own_a (tt (ff).toNatClampNeg)) from own_naB _] at W150
      have N150 := Fr.snoc X150 N126 gwb
      have V150 : Af Z h150 wb kw .byte (64 : Int32) (fun i => .int ((own_up gw 0 (own_a (tt (ff).toNatClampNeg))) i)) := (Af.set Ar148 q148 S148 M148 H148 W150 hi149).fn (fun j _ => own_upf _ _ _ _ rfl j)
      have G151 : Go p e below A0 (T150.setTop (mkF m 177 #[.val (.ref ax), .val (.ref tx), .val (.int nn), .val (.int ff), .val (.int ff), .val (.int (1 : Int32)), .val (.ref wb), .val (.int (1 : Int32)), .val (.int (tt (ff).toNatClampNeg)), .val (.int (own_a (tt (ff).toNatClampNeg)))] [])) := fun tq kq => G147 tq (st150 _ kq)
      have G152 : Go p e below A0 (T150.setTop (mkF m 116 #[.val (.ref ax), .val (.ref tx), .val (.int nn), .val (.int (ff + (1 : Int32))), .val (.int ff), .val (.int (1 : Int32)), .val (.ref wb), .val (.int (1 : Int32)), .val (.int (tt (ff).toNatClampNeg)), .val (.int (own_a (tt (ff).toNatClampNeg)))] [(.int nn), (.int (ff + (1 : Int32)))])) := fun tq kq => G151 tq (by
        refine XS.iinc X150.here hx rfl (hb hby d6_177) rfl (l' := #[.val (.ref ax), .val (.ref tx), .val (.int nn), .val (.int (ff + (1 : Int32))), .val (.int ff), .val (.int (1 : Int32)), .val (.ref wb), .val (.int (1 : Int32)), .val (.int (tt (ff).toNatClampNeg)), .val (.int (own_a (tt (ff).toNatClampNeg)))]) rfl ?_
        show Steps p.tables e below (T150.setTop (mkF m 180 #[.val (.ref ax), .val (.ref tx), .val (.int nn), .val (.int (ff + (1 : Int32))), .val (.int ff), .val (.int (1 : Int32)), .val (.ref wb), .val (.int (1 : Int32)), .val (.int (tt (ff).toNatClampNeg)), .val (.int (own_a (tt (ff).toNatClampNeg)))] [])) _
        refine XS.goto X150.here hx rfl (pc0 := 180) (pc' := 213) rfl (hb hby d6_180) (by decide) (by decide) ?_
        show Steps p.tables e below (T150.setTop (mkF m 213 #[.val (.ref ax), .val (.ref tx), .val (.int nn), .val (.int (ff + (1 : Int32))), .val (.int ff), .val (.int (1 : Int32)), .val (.ref wb), .val (.int (1 : Int32)), .val (.int (tt (ff).toNatClampNeg)), .val (.int (own_a (tt (ff).toNatClampNeg)))] [])) _
        refine XS.goto X150.here hx rfl (pc0 := 213) (pc' := 114) rfl (hb hby d6_213) (by decide) (by decide) ?_
        show Steps p.tables e below (T150.setTop (mkF m 114 #[.val (.ref ax), .val (.ref tx), .val (.int nn), .val (.int (ff + (1 : Int32))), .val (.int ff), .val (.int (1 : Int32)), .val (.ref wb), .val (.int (1 : Int32)), .val (.int (tt (ff).toNatClampNeg)), .val (.int (own_a (tt (ff).toNatClampNeg)))] [])) _
        refine XS.iloadN X150.here hx rfl (hb hby d6_114) rfl ?_
        show Steps p.tables e below (T150.setTop (mkF m 115 #[.val (.ref ax), .val (.ref tx), .val (.int nn), .val (.int (ff + (1 : Int32))), .val (.int ff), .val (.int (1 : Int32)), .val (.ref wb), .val (.int (1 : Int32)), .val (.int (tt (ff).toNatClampNeg)), .val (.int (own_a (tt (ff).toNatClampNeg)))] [(.int (ff + (1 : Int32)))])) _
        refine XS.iloadN X150.here hx rfl (hb hby d6_115) rfl ?_
        show Steps p.tables e below (T150.setTop (mkF m 116 #[.val (.ref ax), .val (.ref tx), .val (.int nn), .val (.int (ff + (1 : Int32))), .val (.int ff), .val (.int (1 : Int32)), .val (.ref wb), .val (.int (1 : Int32)), .val (.int (tt (ff).toNatClampNeg)), .val (.int (own_a (tt (ff).toNatClampNeg)))] [(.int nn), (.int (ff + (1 : Int32)))])) _
        exact kq)
      by_cases hc153 : (ff + (1 : Int32)) < nn
      · have G154 : Go p e below A0 (T150.setTop (mkF m 121 #[.val (.ref ax), .val (.ref tx), .val (.int nn), .val (.int (ff + (1 : Int32))), .val (.int ff), .val (.int (1 : Int32)), .val (.ref wb), .val (.int (1 : Int32)), .val (.int (tt (ff).toNatClampNeg)), .val (.int (own_a (tt (ff).toNatClampNeg)))] [(.int (ff + (1 : Int32))), (.ref tx)])) := fun tq kq => G152 tq (by
          refine XS.icmpNo X150.here hx rfl (hb hby d6_116) rfl (tlt hc153).2.1 ?_
          show Steps p.tables e below (T150.setTop (mkF m 119 #[.val (.ref ax), .val (.ref tx), .val (.int nn), .val (.int (ff + (1 : Int32))), .val (.int ff), .val (.int (1 : Int32)), .val (.ref wb), .val (.int (1 : Int32)), .val (.int (tt (ff).toNatClampNeg)), .val (.int (own_a (tt (ff).toNatClampNeg)))] [])) _
          refine XS.aloadN X150.here hx rfl (hb hby d6_119) rfl rfl ?_
          show Steps p.tables e below (T150.setTop (mkF m 120 #[.val (.ref ax), .val (.ref tx), .val (.int nn), .val (.int (ff + (1 : Int32))), .val (.int ff), .val (.int (1 : Int32)), .val (.ref wb), .val (.int (1 : Int32)), .val (.int (tt (ff).toNatClampNeg)), .val (.int (own_a (tt (ff).toNatClampNeg)))] [(.ref tx)])) _
          refine XS.iloadN X150.here hx rfl (hb hby d6_120) rfl ?_
          show Steps p.tables e below (T150.setTop (mkF m 121 #[.val (.ref ax), .val (.ref tx), .val (.int nn), .val (.int (ff + (1 : Int32))), .val (.int ff), .val (.int (1 : Int32)), .val (.ref wb), .val (.int (1 : Int32)), .val (.int (tt (ff).toNatClampNeg)), .val (.int (own_a (tt (ff).toNatClampNeg)))] [(.int (ff + (1 : Int32))), (.ref tx)])) _
          exact kq)
        have f155 := (f133.other W150 htw)
        obtain ⟨cl156, Ar156, q156, S156, M156, H156⟩ := id f155
        have i158 : ¬ (ff + (1 : Int32)) < 0 ∧ (ff + (1 : Int32)) < zt := ⟨zi136, own_ltt hc153 hnz⟩
        have ri158 := htt _ (own_natl i158.1 i158.2)
        have zi158 := own_pos zi136 hc153
        have li158 := own_nlt1 hc153
        have hi157 : ¬ ((ff + (1 : Int32)) < 0 ∨ cl156.slots.size ≤ ((ff + (1 : Int32))).toNatClampNeg) := (inb_of S156 i158)
        have G159 : Go p e below A0 (T150.setTop (mkF m 132 #[.val (.ref ax), .val (.ref tx), .val (.int nn), .val (.int (ff + (1 : Int32))), .val (.int ff), .val (.int (1 : Int32)), .val (.ref wb), .val (.int (1 : Int32)), .val (.int (tt ((ff + (1 : Int32))).toNatClampNeg)), .val (.int (own_a (tt (ff).toNatClampNeg)))] [])) := fun tq kq => G154 tq (by
          refine X150.caload hx (j := (ff + (1 : Int32))) (v := (.int (tt ((ff + (1 : Int32))).toNatClampNeg))) (by rw [e150]; exact Ar156.1) (State.isArrayOf_alike hZ.alike Ar156.2.1) Ar156.2.2 hi157 ((H156 _ (S156 ▸ Nat.lt_of_not_le fun y => hi157 (Or.inr y))).trans (congrArg some rfl)) (g := (mkF m 121 #[.val (.ref ax), .val (.ref tx), .val (.int nn), .val (.int (ff + (1 : Int32))), .val (.int ff), .val (.int (1 : Int32)), .val (.ref wb), .val (.int (1 : Int32)), .val (.int (tt (ff).toNatClampNeg)), .val (.int (own_a (tt (ff).toNatClampNeg)))] [(.int (ff + (1 : Int32))), (.ref tx)])) rfl rfl (hb hby d6_121) _ ?_
          show Steps p.tables e below (T150.setTop (mkF m 122 #[.val (.ref ax), .val (.ref tx), .val (.int nn), .val (.int (ff + (1 : Int32))), .val (.int ff), .val (.int (1 : Int32)), .val (.ref wb), .val (.int (1 : Int32)), .val (.int (tt (ff).toNatClampNeg)), .val (.int (own_a (tt (ff).toNatClampNeg)))] [(.int (tt ((ff + (1 : Int32))).toNatClampNeg))])) _
          refine XS.istore X150.here hx rfl (hb hby d6_122) rfl (l' := #[.val (.ref ax), .val (.ref tx), .val (.int nn), .val (.int (ff + (1 : Int32))), .val (.int ff), .val (.int (1 : Int32)), .val (.ref wb), .val (.int (1 : Int32)), .val (.int (tt ((ff + (1 : Int32))).toNatClampNeg)), .val (.int (own_a (tt (ff).toNatClampNeg)))]) rfl ?_
          show Steps p.tables e below (T150.setTop (mkF m 124 #[.val (.ref ax), .val (.ref tx), .val (.int nn), .val (.int (ff + (1 : Int32))), .val (.int ff), .val (.int (1 : Int32)), .val (.ref wb), .val (.int (1 : Int32)), .val (.int (tt ((ff + (1 : Int32))).toNatClampNeg)), .val (.int (own_a (tt (ff).toNatClampNeg)))] [])) _
          refine XS.iload X150.here hx rfl (hb hby d6_124) rfl ?_
          show Steps p.tables e below (T150.setTop (mkF m 126 #[.val (.ref ax), .val (.ref tx), .val (.int nn), .val (.int (ff + (1 : Int32))), .val (.int ff), .val (.int (1 : Int32)), .val (.ref wb), .val (.int (1 : Int32)), .val (.int (tt ((ff + (1 : Int32))).toNatClampNeg)), .val (.int (own_a (tt (ff).toNatClampNeg)))] [(.int (tt ((ff + (1 : Int32))).toNatClampNeg))])) _
          refine XS.sipush X150.here hx rfl (hb hby d6_126) ?_
          show Steps p.tables e below (T150.setTop (mkF m 129 #[.val (.ref ax), .val (.ref tx), .val (.int nn), .val (.int (ff + (1 : Int32))), .val (.int ff), .val (.int (1 : Int32)), .val (.ref wb), .val (.int (1 : Int32)), .val (.int (tt ((ff + (1 : Int32))).toNatClampNeg)), .val (.int (own_a (tt (ff).toNatClampNeg)))] [(.int (128 : Int32)), (.int (tt ((ff + (1 : Int32))).toNatClampNeg))])) _
          refine XS.icmpNo X150.here hx rfl (hb hby d6_129) rfl (tlt ri158.2).2.1 ?_
          show Steps p.tables e below (T150.setTop (mkF m 132 #[.val (.ref ax), .val (.ref tx), .val (.int nn), .val (.int (ff + (1 : Int32))), .val (.int ff), .val (.int (1 : Int32)), .val (.ref wb), .val (.int (1 : Int32)), .val (.int (tt ((ff + (1 : Int32))).toNatClampNeg)), .val (.int (own_a (tt (ff).toNatClampNeg)))] [])) _
          exact kq)
        obtain ⟨T160, X160, e160, st160⟩ := getS2 X150 hx hZ hown (host := "") (Or.inl (hw _ (List.mem_of_getElem? (i := 38) rfl))) Via.refl e150 (hSd.ext ((hold.wr W126 gax).wr W150 gwb).2) (g := (mkF m 132 #[.val (.ref ax), .val (.ref tx), .val (.int nn), .val (.int (ff + (1 : Int32))), .val (.int ff), .val (.int (1 : Int32)), .val (.ref wb), .val (.int (1 : Int32)), .val (.int (tt ((ff + (1 : Int32))).toNatClampNeg)), .val (.int (own_a (tt (ff).toNatClampNeg)))] [])) rfl (hb hby d6_132)
        have G161 : Go p e below A0 (T160.setTop (mkF m 135 #[.val (.ref ax), .val (.ref tx), .val (.int nn), .val (.int (ff + (1 : Int32))), .val (.int ff), .val (.int (1 : Int32)), .val (.ref wb), .val (.int (1 : Int32)), .val (.int (tt ((ff + (1 : Int32))).toNatClampNeg)), .val (.int (own_a (tt (ff).toNatClampNeg)))] [(.ref tb)])) := fun tq kq => G159 tq (st160 _ kq)
        have G162 : Go p e below A0 (T160.setTop (mkF m 137 #[.val (.ref ax), .val (.ref tx), .val (.int nn), .val (.int (ff + (1 : Int32))), .val (.int ff), .val (.int (1 : Int32)), .val (.ref wb), .val (.int (1 : Int32)), .val (.int (tt ((ff + (1 : Int32))).toNatClampNeg)), .val (.int (own_a (tt (ff).toNatClampNeg)))] [(.int (tt ((ff + (1 : Int32))).toNatClampNeg)), (.ref tb)])) := fun tq kq => G161 tq (by
          refine XS.iload X160.here hx rfl (hb hby d6_135) rfl ?_
          show Steps p.tables e below (T160.setTop (mkF m 137 #[.val (.ref ax), .val (.ref tx), .val (.int nn), .val (.int (ff + (1 : Int32))), .val (.int ff), .val (.int (1 : Int32)), .val (.ref wb), .val (.int (1 : Int32)), .val (.int (tt ((ff + (1 : Int32))).toNatClampNeg)), .val (.int (own_a (tt (ff).toNatClampNeg)))] [(.int (tt ((ff + (1 : Int32))).toNatClampNeg)), (.ref tb)])) _
          exact kq)
        have f163 := (f141.other W150 (hold.ne hAd.lt gwb))
        obtain ⟨cl164, Ar164, q164, S164, M164, H164⟩ := id f163
        have hi165 : ¬ ((tt ((ff + (1 : Int32))).toNatClampNeg) < 0 ∨ cl164.slots.size ≤ ((tt ((ff + (1 : Int32))).toNatClampNeg)).toNatClampNeg) := (inb_of S164 ri158)
        have G166 : Go p e below A0 (T160.setTop (mkF m 142 #[.val (.ref ax), .val (.ref tx), .val (.int nn), .val (.int (ff + (1 : Int32))), .val (.int ff), .val (.int (1 : Int32)), .val (.ref wb), .val (.int (1 : Int32)), .val (.int (tt ((ff + (1 : Int32))).toNatClampNeg)), .val (.int (own_a (tt ((ff + (1 : Int32))).toNatClampNeg)))] [(.int (own_a (tt ((ff + (1 : Int32))).toNatClampNeg)))])) := fun tq kq => G162 tq (by
          refine X160.baloadBytes hx (j := (tt ((ff + (1 : Int32))).toNatClampNeg)) (v := (.int (own_a (tt ((ff + (1 : Int32))).toNatClampNeg)))) (by rw [e160]; exact Ar164.1) (State.isArrayOf_alike hZ.alike Ar164.2.1) Ar164.2.2 hi165 ((H164 _ (S164 ▸ Nat.lt_of_not_le fun y => hi165 (Or.inr y))).trans (congrArg some (congrArg (fun q => Value.int (own_a q)) (own_back ri158.1)))) (g := (mkF m 137 #[.val (.ref ax), .val (.ref tx), .val (.int nn), .val (.int (ff + (1 : Int32))), .val (.int ff), .val (.int (1 : Int32)), .val (.ref wb), .val (.int (1 : Int32)), .val (.int (tt ((ff + (1 : Int32))).toNatClampNeg)), .val (.int (own_a (tt (ff).toNatClampNeg)))] [(.int (tt ((ff + (1 : Int32))).toNatClampNeg)), (.ref tb)])) rfl rfl (hb hby d6_137) _ ?_
          show Steps p.tables e below (T160.setTop (mkF m 138 #[.val (.ref ax), .val (.ref tx), .val (.int nn), .val (.int (ff + (1 : Int32))), .val (.int ff), .val (.int (1 : Int32)), .val (.ref wb), .val (.int (1 : Int32)), .val (.int (tt ((ff + (1 : Int32))).toNatClampNeg)), .val (.int (own_a (tt (ff).toNatClampNeg)))] [(.int (own_a (tt ((ff + (1 : Int32))).toNatClampNeg)))])) _
          refine XS.istore X160.here hx rfl (hb hby d6_138) rfl (l' := #[.val (.ref ax), .val (.ref tx), .val (.int nn), .val (.int (ff + (1 : Int32))), .val (.int ff), .val (.int (1 : Int32)), .val (.ref wb), .val (.int (1 : Int32)), .val (.int (tt ((ff + (1 : Int32))).toNatClampNeg)), .val (.int (own_a (tt ((ff + (1 : Int32))).toNatClampNeg)))]) rfl ?_
          show Steps p.tables e below (T160.setTop (mkF m 140 #[.val (.ref ax), .val (.ref tx), .val (.int nn), .val (.int (ff + (1 : Int32))), .val (.int ff), .val (.int (1 : Int32)), .val (.ref wb), .val (.int (1 : Int32)), .val (.int (tt ((ff + (1 : Int32))).toNatClampNeg)), .val (.int (own_a (tt ((ff + (1 : Int32))).toNatClampNeg)))] [])) _
          refine XS.iload X160.here hx rfl (hb hby d6_140) rfl ?_
          show Steps p.tables e below (T160.setTop (mkF m 142 #[.val (.ref ax), .val (.ref tx), .val (.int nn), .val (.int (ff + (1 : Int32))), .val (.int ff), .val (.int (1 : Int32)), .val (.ref wb), .val (.int (1 : Int32)), .val (.int (tt ((ff + (1 : Int32))).toNatClampNeg)), .val (.int (own_a (tt ((ff + (1 : Int32))).toNatClampNeg)))] [(.int (own_a (tt ((ff + (1 : Int32))).toNatClampNeg)))])) _
          exact kq)
        by_cases hc167 : (own_W (tt ((ff + (1 : Int32))).toNatClampNeg))
        · have G168 : Go p e below A0 (T160.setTop (mkF m 152 #[.val (.ref ax), .val (.ref tx), .val (.int nn), .val (.int (ff + (1 : Int32))), .val (.int ff), .val (.int (1 : Int32)), .val (.ref wb), .val (.int (1 : Int32)), .val (.int (tt ((ff + (1 : Int32))).toNatClampNeg)), .val (.int (own_a (tt ((ff + (1 : Int32))).toNatClampNeg)))] [(.ref wb), (.int (1 : Int32))])) := fun tq kq => G166 tq (by
            refine XS.ifYes X160.here hx rfl (pc0 := 142) (pc' := 148) rfl (hb hby d6_142) rfl ((if0 _ _).trans (feq (own_a1 hc167)).2) (by decide) (by decide) ?_
            show Steps p.tables e below (T160.setTop (mkF m 148 #[.val (.ref ax), .val (.ref tx), .val (.int nn), .val (.int (ff + (1 : Int32))), .val (.int ff), .val (.int (1 : Int32)), .val (.ref wb), .val (.int (1 : Int32)), .val (.int (tt ((ff + (1 : Int32))).toNatClampNeg)), .val (.int (own_a (tt ((ff + (1 : Int32))).toNatClampNeg)))] [])) _
            refine XS.iload X160.here hx rfl (hb hby d6_148) rfl ?_
            show Steps p.tables e below (T160.setTop (mkF m 150 #[.val (.ref ax), .val (.ref tx), .val (.int nn), .val (.int (ff + (1 : Int32))), .val (.int ff), .val (.int (1 : Int32)), .val (.ref wb), .val (.int (1 : Int32)), .val (.int (tt ((ff + (1 : Int32))).toNatClampNeg)), .val (.int (own_a (tt ((ff + (1 : Int32))).toNatClampNeg)))] [(.int (1 : Int32))])) _
            refine XS.aload X160.here hx rfl (hb hby d6_150) rfl rfl ?_
            show Steps p.tables e below (T160.setTop (mkF m 152 #[.val (.ref ax), .val (.ref tx), .val (.int nn), .val (.int (ff + (1 : Int32))), .val (.int ff), .val (.int (1 : Int32)), .val (.ref wb), .val (.int (1 : Int32)), .val (.int (tt ((ff + (1 : Int32))).toNatClampNeg)), .val (.int (own_a (tt ((ff + (1 : Int32))).toNatClampNeg)))] [(.ref wb), (.int (1 : Int32))])) _
            exact kq)
          obtain ⟨cl169, Ar169, q169, S169, M169, H169⟩ := id V150
          have G170 : Go p e below A0 (T160.setTop (mkF m 176 #[.val (.ref ax), .val (.ref tx), .val (.int nn), .val (.int (ff + (1 : Int32))), .val (.int ff), .val (.int (1 : Int32)), .val (.ref wb), .val (.int (2 : Int32)), .val (.int (tt ((ff + (1 : Int32))).toNatClampNeg)), .val (.int (own_a (tt ((ff + (1 : Int32))).toNatClampNeg)))] [(.int (own_a (tt ((ff + (1 : Int32))).toNatClampNeg))), (.int (1 : Int32)), (.ref wb)])) := fun tq kq => G168 tq (by
            refine X160.arraylength hx (by rw [e160]; exact Ar169.1) (State.isArrayOf_alike hZ.alike Ar169.2.1) (g := (mkF m 152 #[.val (.ref ax), .val (.ref tx), .val (.int nn), .val (.int (ff + (1 : Int32))), .val (.int ff), .val (.int (1 : Int32)), .val (.ref wb), .val (.int (1 : Int32)), .val (.int (tt ((ff + (1 : Int32))).toNatClampNeg)), .val (.int (own_a (tt ((ff + (1 : Int32))).toNatClampNeg)))] [(.ref wb), (.int (1 : Int32))])) rfl rfl (hb hby d6_152) _ ?_
            rw [len_of S169 M169]
            show Steps p.tables e below (T160.setTop (mkF m 153 #[.val (.ref ax), .val (.ref tx), .val (.int nn), .val (.int (ff + (1 : Int32))), .val (.int ff), .val (.int (1 : Int32)), .val (.ref wb), .val (.int (1 : Int32)), .val (.int (tt ((ff + (1 : Int32))).toNatClampNeg)), .val (.int (own_a (tt ((ff + (1 : Int32))).toNatClampNeg)))] [(.int (64 : Int32)), (.int (1 : Int32))])) _
            refine XS.icmpYes X160.here hx rfl (pc0 := 153) (pc' := 167) rfl (hb hby d6_153) rfl (by decide) (by decide) (by decide) ?_
            show Steps p.tables e below (T160.setTop (mkF m 167 #[.val (.ref ax), .val (.ref tx), .val (.int nn), .val (.int (ff + (1 : Int32))), .val (.int ff), .val (.int (1 : Int32)), .val (.ref wb), .val (.int (1 : Int32)), .val (.int (tt ((ff + (1 : Int32))).toNatClampNeg)), .val (.int (own_a (tt ((ff + (1 : Int32))).toNatClampNeg)))] [])) _
            refine XS.aload X160.here hx rfl (hb hby d6_167) rfl rfl ?_
            show Steps p.tables e below (T160.setTop (mkF m 169 #[.val (.ref ax), .val (.ref tx), .val (.int nn), .val (.int (ff + (1 : Int32))), .val (.int ff), .val (.int (1 : Int32)), .val (.ref wb), .val (.int (1 : Int32)), .val (.int (tt ((ff + (1 : Int32))).toNatClampNeg)), .val (.int (own_a (tt ((ff + (1 : Int32))).toNatClampNeg)))] [(.ref wb)])) _
            refine XS.iload X160.here hx rfl (hb hby d6_169) rfl ?_
            show Steps p.tables e below (T160.setTop (mkF m 171 #[.val (.ref ax), .val (.ref tx), .val (.int nn), .val (.int (ff + (1 : Int32))), .val (.int ff), .val (.int (1 : Int32)), .val (.ref wb), .val (.int (1 : Int32)), .val (.int (tt ((ff + (1 : Int32))).toNatClampNeg)), .val (.int (own_a (tt ((ff + (1 : Int32))).toNatClampNeg)))] [(.int (1 : Int32)), (.ref wb)])) _
            refine XS.iinc X160.here hx rfl (hb hby d6_171) rfl (l' := #[.val (.ref ax), .val (.ref tx), .val (.int nn), .val (.int (ff + (1 : Int32))), .val (.int ff), .val (.int (1 : Int32)), .val (.ref wb), .val (.int ((1 : Int32) + (1 : Int32))), .val (.int (tt ((ff + (1 : Int32))).toNatClampNeg)), .val (.int (own_a (tt ((ff + (1 : Int32))).toNatClampNeg)))]) rfl ?_
            show Steps p.tables e below (T160.setTop (mkF m 174 #[.val (.ref ax), .val (.ref tx), .val (.int nn), .val (.int (ff + (1 : Int32))), .val (.int ff), .val (.int (1 : Int32)), .val (.ref wb), .val (.int ((1 : Int32) + (1 : Int32))), .val (.int (tt ((ff + (1 : Int32))).toNatClampNeg)), .val (.int (own_a (tt ((ff + (1 : Int32))).toNatClampNeg)))] [(.int (1 : Int32)), (.ref wb)])) _
            rw [show ((1 : Int32) + (1 : Int32)) = (2 : Int32) from (by decide : ((1 : Int32) + (1 : Int32)) = (2 : Int32))]
            show Steps p.tables e below (T160.setTop (mkF m 174 #[.val (.ref ax), .val (.ref tx), .val (.int nn), .val (.int (ff + (1 : Int32))), .val (.int ff), .val (.int (1 : Int32)), .val (.ref wb), .val (.int (2 : Int32)), .val (.int (tt ((ff + (1 : Int32))).toNatClampNeg)), .val (.int (own_a (tt ((ff + (1 : Int32))).toNatClampNeg)))] [(.int (1 : Int32)), (.ref wb)])) _
            refine XS.iload X160.here hx rfl (hb hby d6_174) rfl ?_
            show Steps p.tables e below (T160.setTop (mkF m 176 #[.val (.ref ax), .val (.ref tx), .val (.int nn), .val (.int (ff + (1 : Int32))), .val (.int ff), .val (.int (1 : Int32)), .val (.ref wb), .val (.int (2 : Int32)), .val (.int (tt ((ff + (1 : Int32))).toNatClampNeg)), .val (.int (own_a (tt ((ff + (1 : Int32))).toNatClampNeg)))] [(.int (own_a (tt ((ff + (1 : Int32))).toNatClampNeg))), (.int (1 : Int32)), (.ref wb)])) _
            exact kq)
          obtain ⟨cl171, Ar171, q171, S171, M171, H171⟩ := id V150
          have hi172 : ¬ ((1 : Int32) < 0 ∨ cl171.slots.size ≤ ((1 : Int32)).toNatClampNeg) := (inb_of S171 ⟨by decide, by decide⟩)
          obtain ⟨T173, h173, X173, e173, W173, st173⟩ := stB X160 hx hZ e160 Ar171 (j := (1 : Int32)) hi172 (g := (mkF m 176 #[.val (.ref ax), .val (.ref tx), .val (.int nn), .val (.int (ff + (1 : Int32))), .val (.int ff), .val (.int (1 : Int32)), .val (.ref wb), .val (.int (2 : Int32)), .val (.int (tt ((ff + (1 : Int32))).toNatClampNeg)), .val (.int (own_a (tt ((ff + (1 : Int32))).toNatClampNeg)))] [(.int (own_a (tt ((ff + (1 : Int32))).toNatClampNeg))), (.int (1 : Int32)), (.ref wb)])) rfl rfl (hb hby d6_176)
          rw [show nar .byte (own_a (tt ((ff + (1 : Int32))).toNatClampNeg)) = (own_a (tt ((ff + (1 : Int32))).toNatClampNeg)) from own_naB _] at W173
          have N173 := Fr.snoc X173 N150 gwb
          have V173 : Af Z h173 wb kw .byte (64 : Int32) (fun i => .int ((own_up (own_up gw 0 (own_a (tt (ff).toNatClampNeg))) 1 (own_a (tt ((ff + (1 : Int32))).toNatClampNeg))) i)) := (Af.set Ar171 q171 S171 M171 H171 W173 hi172).fn (fun j _ => own_upf _ _ _ _ rfl j)
          have G174 : Go p e below A0 (T173.setTop (mkF m 177 #[.val (.ref ax), .val (.ref tx), .val (.int nn), .val (.int (ff + (1 : Int32))), .val (.int ff), .val (.int (1 : Int32)), .val (.ref wb), .val (.int (2 : Int32)), .val (.int (tt ((ff + (1 : Int32))).toNatClampNeg)), .val (.int (own_a (tt ((ff + (1 : Int32))).toNatClampNeg)))] [])) := fun tq kq => G170 tq (st173 _ kq)
          have G175 : Go p e below A0 (T173.setTop (mkF m 116 #[.val (.ref ax), .val (.ref tx), .val (.int nn), .val (.int ((ff + (1 : Int32)) + (1 : Int32))), .val (.int ff), .val (.int (1 : Int32)), .val (.ref wb), .val (.int (2 : Int32)), .val (.int (tt ((ff + (1 : Int32))).toNatClampNeg)), .val (.int (own_a (tt ((ff + (1 : Int32))).toNatClampNeg)))] [(.int nn), (.int ((ff + (1 : Int32)) + (1 : Int32)))])) := fun tq kq => G174 tq (by
            refine XS.iinc X173.here hx rfl (hb hby d6_177) rfl (l' := #[.val (.ref ax), .val (.ref tx), .val (.int nn), .val (.int ((ff + (1 : Int32)) + (1 : Int32))), .val (.int ff), .val (.int (1 : Int32)), .val (.ref wb), .val (.int (2 : Int32)), .val (.int (tt ((ff + (1 : Int32))).toNatClampNeg)), .val (.int (own_a (tt ((ff + (1 : Int32))).toNatClampNeg)))]) rfl ?_
            show Steps p.tables e below (T173.setTop (mkF m 180 #[.val (.ref ax), .val (.ref tx), .val (.int nn), .val (.int ((ff + (1 : Int32)) + (1 : Int32))), .val (.int ff), .val (.int (1 : Int32)), .val (.ref wb), .val (.int (2 : Int32)), .val (.int (tt ((ff + (1 : Int32))).toNatClampNeg)), .val (.int (own_a (tt ((ff + (1 : Int32))).toNatClampNeg)))] [])) _
            refine XS.goto X173.here hx rfl (pc0 := 180) (pc' := 213) rfl (hb hby d6_180) (by decide) (by decide) ?_
            show Steps p.tables e below (T173.setTop (mkF m 213 #[.val (.ref ax), .val (.ref tx), .val (.int nn), .val (.int ((ff + (1 : Int32)) + (1 : Int32))), .val (.int ff), .val (.int (1 : Int32)), .val (.ref wb), .val (.int (2 : Int32)), .val (.int (tt ((ff + (1 : Int32))).toNatClampNeg)), .val (.int (own_a (tt ((ff + (1 : Int32))).toNatClampNeg)))] [])) _
            refine XS.goto X173.here hx rfl (pc0 := 213) (pc' := 114) rfl (hb hby d6_213) (by decide) (by decide) ?_
            show Steps p.tables e below (T173.setTop (mkF m 114 #[.val (.ref ax), .val (.ref tx), .val (.int nn), .val (.int ((ff + (1 : Int32)) + (1 : Int32))), .val (.int ff), .val (.int (1 : Int32)), .val (.ref wb), .val (.int (2 : Int32)), .val (.int (tt ((ff + (1 : Int32))).toNatClampNeg)), .val (.int (own_a (tt ((ff + (1 : Int32))).toNatClampNeg)))] [])) _
            refine XS.iloadN X173.here hx rfl (hb hby d6_114) rfl ?_
            show Steps p.tables e below (T173.setTop (mkF m 115 #[.val (.ref ax), .val (.ref tx), .val (.int nn), .val (.int ((ff + (1 : Int32)) + (1 : Int32))), .val (.int ff), .val (.int (1 : Int32)), .val (.ref wb), .val (.int (2 : Int32)), .val (.int (tt ((ff + (1 : Int32))).toNatClampNeg)), .val (.int (own_a (tt ((ff + (1 : Int32))).toNatClampNeg)))] [(.int ((ff + (1 : Int32)) + (1 : Int32)))])) _
            refine XS.iloadN X173.here hx rfl (hb hby d6_115) rfl ?_
            show Steps p.tables e below (T173.setTop (mkF m 116 #[.val (.ref ax), .val (.ref tx), .val (.int nn), .val (.int ((ff + (1 : Int32)) + (1 : Int32))), .val (.int ff), .val (.int (1 : Int32)), .val (.ref wb), .val (.int (2 : Int32)), .val (.int (tt ((ff + (1 : Int32))).toNatClampNeg)), .val (.int (own_a (tt ((ff + (1 : Int32))).toNatClampNeg)))] [(.int nn), (.int ((ff + (1 : Int32)) + (1 : Int32)))])) _
            exact kq)
          by_cases hc176 : ((ff + (1 : Int32)) + (1 : Int32)) < nn
          · have G177 : Go p e below A0 (T173.setTop (mkF m 121 #[.val (.ref ax), .val (.ref tx), .val (.int nn), .val (.int ((ff + (1 : Int32)) + (1 : Int32))), .val (.int ff), .val (.int (1 : Int32)), .val (.ref wb), .val (.int (2 : Int32)), .val (.int (tt ((ff + (1 : Int32))).toNatClampNeg)), .val (.int (own_a (tt ((ff + (1 : Int32))).toNatClampNeg)))] [(.int ((ff + (1 : Int32)) + (1 : Int32))), (.ref tx)])) := fun tq kq => G175 tq (by
              refine XS.icmpNo X173.here hx rfl (hb hby d6_116) rfl (tlt hc176).2.1 ?_
              show Steps p.tables e below (T173.setTop (mkF m 119 #[.val (.ref ax), .val (.ref tx), .val (.int nn), .val (.int ((ff + (1 : Int32)) + (1 : Int32))), .val (.int ff), .val (.int (1 : Int32)), .val (.ref wb), .val (.int (2 : Int32)), .val (.int (tt ((ff + (1 : Int32))).toNatClampNeg)), .val (.int (own_a (tt ((ff + (1 : Int32))).toNatClampNeg)))] [])) _
              refine XS.aloadN X173.here hx rfl (hb hby d6_119) rfl rfl ?_
              show Steps p.tables e below (T173.setTop (mkF m 120 #[.val (.ref ax), .val (.ref tx), .val (.int nn), .val (.int ((ff + (1 : Int32)) + (1 : Int32))), .val (.int ff), .val (.int (1 : Int32)), .val (.ref wb), .val (.int (2 : Int32)), .val (.int (tt ((ff + (1 : Int32))).toNatClampNeg)), .val (.int (own_a (tt ((ff + (1 : Int32))).toNatClampNeg)))] [(.ref tx)])) _
              refine XS.iloadN X173.here hx rfl (hb hby d6_120) rfl ?_
              show Steps p.tables e below (T173.setTop (mkF m 121 #[.val (.ref ax), .val (.ref tx), .val (.int nn), .val (.int ((ff + (1 : Int32)) + (1 : Int32))), .val (.int ff), .val (.int (1 : Int32)), .val (.ref wb), .val (.int (2 : Int32)), .val (.int (tt ((ff + (1 : Int32))).toNatClampNeg)), .val (.int (own_a (tt ((ff + (1 : Int32))).toNatClampNeg)))] [(.int ((ff + (1 : Int32)) + (1 : Int32))), (.ref tx)])) _
              exact kq)
            have f178 := (f155.other W173 htw)
            obtain ⟨cl179, Ar179, q179, S179, M179, H179⟩ := id f178
            have i181 : ¬ ((ff + (1 : Int32)) + (1 : Int32)) < 0 ∧ ((ff + (1 : Int32)) + (1 : Int32)) < zt := ⟨zi158, own_ltt hc176 hnz⟩
            have ri181 := htt _ (own_natl i181.1 i181.2)
            have zi181 := own_pos zi158 hc176
            have li181 := own_nlt1 hc176
            have mi181 := own_lim hz hc112 hn3
            have hi180 : ¬ (((ff + (1 : Int32)) + (1 : Int32)) < 0 ∨ cl179.slots.size ≤ (((ff + (1 : Int32)) + (1 : Int32))).toNatClampNeg) := (inb_of S179 i181)
            have G182 : Go p e below A0 (T173.setTop (mkF m 132 #[.val (.ref ax), .val (.ref tx), .val (.int nn), .val (.int ((ff + (1 : Int32)) + (1 : Int32))), .val (.int ff), .val (.int (1 : Int32)), .val (.ref wb), .val (.int (2 : Int32)), .val (.int (tt (((ff + (1 : Int32)) + (1 : Int32))).toNatClampNeg)), .val (.int (own_a (tt ((ff + (1 : Int32))).toNatClampNeg)))] [])) := fun tq kq => G177 tq (by
              refine X173.caload hx (j := ((ff + (1 : Int32)) + (1 : Int32))) (v := (.int (tt (((ff + (1 : Int32)) + (1 : Int32))).toNatClampNeg))) (by rw [e173]; exact Ar179.1) (State.isArrayOf_alike hZ.alike Ar179.2.1) Ar179.2.2 hi180 ((H179 _ (S179 ▸ Nat.lt_of_not_le fun y => hi180 (Or.inr y))).trans (congrArg some rfl)) (g := (mkF m 121 #[.val (.ref ax), .val (.ref tx), .val (.int nn), .val (.int ((ff + (1 : Int32)) + (1 : Int32))), .val (.int ff), .val (.int (1 : Int32)), .val (.ref wb), .val (.int (2 : Int32)), .val (.int (tt ((ff + (1 : Int32))).toNatClampNeg)), .val (.int (own_a (tt ((ff + (1 : Int32))).toNatClampNeg)))] [(.int ((ff + (1 : Int32)) + (1 : Int32))), (.ref tx)])) rfl rfl (hb hby d6_121) _ ?_
              show Steps p.tables e below (T173.setTop (mkF m 122 #[.val (.ref ax), .val (.ref tx), .val (.int nn), .val (.int ((ff + (1 : Int32)) + (1 : Int32))), .val (.int ff), .val (.int (1 : Int32)), .val (.ref wb), .val (.int (2 : Int32)), .val (.int (tt ((ff + (1 : Int32))).toNatClampNeg)), .val (.int (own_a (tt ((ff + (1 : Int32))).toNatClampNeg)))] [(.int (tt (((ff + (1 : Int32)) + (1 : Int32))).toNatClampNeg))])) _
              refine XS.istore X173.here hx rfl (hb hby d6_122) rfl (l' := #[.val (.ref ax), .val (.ref tx), .val (.int nn), .val (.int ((ff + (1 : Int32)) + (1 : Int32))), .val (.int ff), .val (.int (1 : Int32)), .val (.ref wb), .val (.int (2 : Int32)), .val (.int (tt (((ff + (1 : Int32)) + (1 : Int32))).toNatClampNeg)), .val (.int (own_a (tt ((ff + (1 : Int32))).toNatClampNeg)))]) rfl ?_
              show Steps p.tables e below (T173.setTop (mkF m 124 #[.val (.ref ax), .val (.ref tx), .val (.int nn), .val (.int ((ff + (1 : Int32)) + (1 : Int32))), .val (.int ff), .val (.int (1 : Int32)), .val (.ref wb), .val (.int (2 : Int32)), .val (.int (tt (((ff + (1 : Int32)) + (1 : Int32))).toNatClampNeg)), .val (.int (own_a (tt ((ff + (1 : Int32))).toNatClampNeg)))] [])) _
              refine XS.iload X173.here hx rfl (hb hby d6_124) rfl ?_
              show Steps p.tables e below (T173.setTop (mkF m 126 #[.val (.ref ax), .val (.ref tx), .val (.int nn), .val (.int ((ff + (1 : Int32)) + (1 : Int32))), .val (.int ff), .val (.int (1 : Int32)), .val (.ref wb), .val (.int (2 : Int32)), .val (.int (tt (((ff + (1 : Int32)) + (1 : Int32))).toNatClampNeg)), .val (.int (own_a (tt ((ff + (1 : Int32))).toNatClampNeg)))] [(.int (tt (((ff + (1 : Int32)) + (1 : Int32))).toNatClampNeg))])) _
              refine XS.sipush X173.here hx rfl (hb hby d6_126) ?_
              show Steps p.tables e below (T173.setTop (mkF m 129 #[.val (.ref ax), .val (.ref tx), .val (.int nn), .val (.int ((ff + (1 : Int32)) + (1 : Int32))), .val (.int ff), .val (.int (1 : Int32)), .val (.ref wb), .val (.int (2 : Int32)), .val (.int (tt (((ff + (1 : Int32)) + (1 : Int32))).toNatClampNeg)), .val (.int (own_a (tt ((ff + (1 : Int32))).toNatClampNeg)))] [(.int (128 : Int32)), (.int (tt (((ff + (1 : Int32)) + (1 : Int32))).toNatClampNeg))])) _
              refine XS.icmpNo X173.here hx rfl (hb hby d6_129) rfl (tlt ri181.2).2.1 ?_
              show Steps p.tables e below (T173.setTop (mkF m 132 #[.val (.ref ax), .val (.ref tx), .val (.int nn), .val (.int ((ff + (1 : Int32)) + (1 : Int32))), .val (.int ff), .val (.int (1 : Int32)), .val (.ref wb), .val (.int (2 : Int32)), .val (.int (tt (((ff + (1 : Int32)) + (1 : Int32))).toNatClampNeg)), .val (.int (own_a (tt ((ff + (1 : Int32))).toNatClampNeg)))] [])) _
              exact kq)
            obtain ⟨T183, X183, e183, st183⟩ := getS2 X173 hx hZ hown (host := "") (Or.inl (hw _ (List.mem_of_getElem? (i := 38) rfl))) Via.refl e173 (hSd.ext (((hold.wr W126 gax).wr W150 gwb).wr W173 gwb).2) (g := (mkF m 132 #[.val (.ref ax), .val (.ref tx), .val (.int nn), .val (.int ((ff + (1 : Int32)) + (1 : Int32))), .val (.int ff), .val (.int (1 : Int32)), .val (.ref wb), .val (.int (2 : Int32)), .val (.int (tt (((ff + (1 : Int32)) + (1 : Int32))).toNatClampNeg)), .val (.int (own_a (tt ((ff + (1 : Int32))).toNatClampNeg)))] [])) rfl (hb hby d6_132)
            have G184 : Go p e below A0 (T183.setTop (mkF m 135 #[.val (.ref ax), .val (.ref tx), .val (.int nn), .val (.int ((ff + (1 : Int32)) + (1 : Int32))), .val (.int ff), .val (.int (1 : Int32)), .val (.ref wb), .val (.int (2 : Int32)), .val (.int (tt (((ff + (1 : Int32)) + (1 : Int32))).toNatClampNeg)), .val (.int (own_a (tt ((ff + (1 : Int32))).toNatClampNeg)))] [(.ref tb)])) := fun tq kq => G182 tq (st183 _ kq)
            have G185 : Go p e below A0 (T183.setTop (mkF m 137 #[.val (.ref ax), .val (.ref tx), .val (.int nn), .val (.int ((ff + (1 : Int32)) + (1 : Int32))), .val (.int ff), .val (.int (1 : Int32)), .val (.ref wb), .val (.int (2 : Int32)), .val (.int (tt (((ff + (1 : Int32)) + (1 : Int32))).toNatClampNeg)), .val (.int (own_a (tt ((ff + (1 : Int32))).toNatClampNeg)))] [(.int (tt (((ff + (1 : Int32)) + (1 : Int32))).toNatClampNeg)), (.ref tb)])) := fun tq kq => G184 tq (by
              refine XS.iload X183.here hx rfl (hb hby d6_135) rfl ?_
              show Steps p.tables e below (T183.setTop (mkF m 137 #[.val (.ref ax), .val (.ref tx), .val (.int nn), .val (.int ((ff + (1 : Int32)) + (1 : Int32))), .val (.int ff), .val (.int (1 : Int32)), .val (.ref wb), .val (.int (2 : Int32)), .val (.int (tt (((ff + (1 : Int32)) + (1 : Int32))).toNatClampNeg)), .val (.int (own_a (tt ((ff + (1 : Int32))).toNatClampNeg)))] [(.int (tt (((ff + (1 : Int32)) + (1 : Int32))).toNatClampNeg)), (.ref tb)])) _
              exact kq)
            have f186 := (f163.other W173 (hold.ne hAd.lt gwb))
            obtain ⟨cl187, Ar187, q187, S187, M187, H187⟩ := id f186
            have hi188 : ¬ ((tt (((ff + (1 : Int32)) + (1 : Int32))).toNatClampNeg) < 0 ∨ cl187.slots.size ≤ ((tt (((ff + (1 : Int32)) + (1 : Int32))).toNatClampNeg)).toNatClampNeg) := (inb_of S187 ri181)
            have G189 : Go p e below A0 (T183.setTop (mkF m 142 #[.val (.ref ax), .val (.ref tx), .val (.int nn), .val (.int ((ff + (1 : Int32)) + (1 : Int32))), .val (.int ff), .val (.int (1 : Int32)), .val (.ref wb), .val (.int (2 : Int32)), .val (.int (tt (((ff + (1 : Int32)) + (1 : Int32))).toNatClampNeg)), .val (.int (own_a (tt (((ff + (1 : Int32)) + (1 : Int32))).toNatClampNeg)))] [(.int (own_a (tt (((ff + (1 : Int32)) + (1 : Int32))).toNatClampNeg)))])) := fun tq kq => G185 tq (by
              refine X183.baloadBytes hx (j := (tt (((ff + (1 : Int32)) + (1 : Int32))).toNatClampNeg)) (v := (.int (own_a (tt (((ff + (1 : Int32)) + (1 : Int32))).toNatClampNeg)))) (by rw [e183]; exact Ar187.1) (State.isArrayOf_alike hZ.alike Ar187.2.1) Ar187.2.2 hi188 ((H187 _ (S187 ▸ Nat.lt_of_not_le fun y => hi188 (Or.inr y))).trans (congrArg some (congrArg (fun q => Value.int (own_a q)) (own_back ri181.1)))) (g := (mkF m 137 #[.val (.ref ax), .val (.ref tx), .val (.int nn), .val (.int ((ff + (1 : Int32)) + (1 : Int32))), .val (.int ff), .val (.int (1 : Int32)), .val (.ref wb), .val (.int (2 : Int32)), .val (.int (tt (((ff + (1 : Int32)) + (1 : Int32))).toNatClampNeg)), .val (.int (own_a (tt ((ff + (1 : Int32))).toNatClampNeg)))] [(.int (tt (((ff + (1 : Int32)) + (1 : Int32))).toNatClampNeg)), (.ref tb)])) rfl rfl (hb hby d6_137) _ ?_
              show Steps p.tables e below (T183.setTop (mkF m 138 #[.val (.ref ax), .val (.ref tx), .val (.int nn), .val (.int ((ff + (1 : Int32)) + (1 : Int32))), .val (.int ff), .val (.int (1 : Int32)), .val (.ref wb), .val (.int (2 : Int32)), .val (.int (tt (((ff + (1 : Int32)) + (1 : Int32))).toNatClampNeg)), .val (.int (own_a (tt ((ff + (1 : Int32))).toNatClampNeg)))] [(.int (own_a (tt (((ff + (1 : Int32)) + (1 : Int32))).toNatClampNeg)))])) _
              refine XS.istore X183.here hx rfl (hb hby d6_138) rfl (l' := #[.val (.ref ax), .val (.ref tx), .val (.int nn), .val (.int ((ff + (1 : Int32)) + (1 : Int32))), .val (.int ff), .val (.int (1 : Int32)), .val (.ref wb), .val (.int (2 : Int32)), .val (.int (tt (((ff + (1 : Int32)) + (1 : Int32))).toNatClampNeg)), .val (.int (own_a (tt (((ff + (1 : Int32)) + (1 : Int32))).toNatClampNeg)))]) rfl ?_
              show Steps p.tables e below (T183.setTop (mkF m 140 #[.val (.ref ax), .val (.ref tx), .val (.int nn), .val (.int ((ff + (1 : Int32)) + (1 : Int32))), .val (.int ff), .val (.int (1 : Int32)), .val (.ref wb), .val (.int (2 : Int32)), .val (.int (tt (((ff + (1 : Int32)) + (1 : Int32))).toNatClampNeg)), .val (.int (own_a (tt (((ff + (1 : Int32)) + (1 : Int32))).toNatClampNeg)))] [])) _
              refine XS.iload X183.here hx rfl (hb hby d6_140) rfl ?_
              show Steps p.tables e below (T183.setTop (mkF m 142 #[.val (.ref ax), .val (.ref tx), .val (.int nn), .val (.int ((ff + (1 : Int32)) + (1 : Int32))), .val (.int ff), .val (.int (1 : Int32)), .val (.ref wb), .val (.int (2 : Int32)), .val (.int (tt (((ff + (1 : Int32)) + (1 : Int32))).toNatClampNeg)), .val (.int (own_a (tt (((ff + (1 : Int32)) + (1 : Int32))).toNatClampNeg)))] [(.int (own_a (tt (((ff + (1 : Int32)) + (1 : Int32))).toNatClampNeg)))])) _
              exact kq)
            by_cases hc190 : (own_W (tt (((ff + (1 : Int32)) + (1 : Int32))).toNatClampNeg))
            · have G191 : Go p e below A0 (T183.setTop (mkF m 152 #[.val (.ref ax), .val (.ref tx), .val (.int nn), .val (.int ((ff + (1 : Int32)) + (1 : Int32))), .val (.int ff), .val (.int (1 : Int32)), .val (.ref wb), .val (.int (2 : Int32)), .val (.int (tt (((ff + (1 : Int32)) + (1 : Int32))).toNatClampNeg)), .val (.int (own_a (tt (((ff + (1 : Int32)) + (1 : Int32))).toNatClampNeg)))] [(.ref wb), (.int (2 : Int32))])) := fun tq kq => G189 tq (by
                refine XS.ifYes X183.here hx rfl (pc0 := 142) (pc' := 148) rfl (hb hby d6_142) rfl ((if0 _ _).trans (feq (own_a1 hc190)).2) (by decide) (by decide) ?_
                show Steps p.tables e below (T183.setTop (mkF m 148 #[.val (.ref ax), .val (.ref tx), .val (.int nn), .val (.int ((ff + (1 : Int32)) + (1 : Int32))), .val (.int ff), .val (.int (1 : Int32)), .val (.ref wb), .val (.int (2 : Int32)), .val (.int (tt (((ff + (1 : Int32)) + (1 : Int32))).toNatClampNeg)), .val (.int (own_a (tt (((ff + (1 : Int32)) + (1 : Int32))).toNatClampNeg)))] [])) _
                refine XS.iload X183.here hx rfl (hb hby d6_148) rfl ?_
                show Steps p.tables e below (T183.setTop (mkF m 150 #[.val (.ref ax), .val (.ref tx), .val (.int nn), .val (.int ((ff + (1 : Int32)) + (1 : Int32))), .val (.int ff), .val (.int (1 : Int32)), .val (.ref wb), .val (.int (2 : Int32)), .val (.int (tt (((ff + (1 : Int32)) + (1 : Int32))).toNatClampNeg)), .val (.int (own_a (tt (((ff + (1 : Int32)) + (1 : Int32))).toNatClampNeg)))] [(.int (2 : Int32))])) _
                refine XS.aload X183.here hx rfl (hb hby d6_150) rfl rfl ?_
                show Steps p.tables e below (T183.setTop (mkF m 152 #[.val (.ref ax), .val (.ref tx), .val (.int nn), .val (.int ((ff + (1 : Int32)) + (1 : Int32))), .val (.int ff), .val (.int (1 : Int32)), .val (.ref wb), .val (.int (2 : Int32)), .val (.int (tt (((ff + (1 : Int32)) + (1 : Int32))).toNatClampNeg)), .val (.int (own_a (tt (((ff + (1 : Int32)) + (1 : Int32))).toNatClampNeg)))] [(.ref wb), (.int (2 : Int32))])) _
                exact kq)
              obtain ⟨cl192, Ar192, q192, S192, M192, H192⟩ := id V173
              have G193 : Go p e below A0 (T183.setTop (mkF m 176 #[.val (.ref ax), .val (.ref tx), .val (.int nn), .val (.int ((ff + (1 : Int32)) + (1 : Int32))), .val (.int ff), .val (.int (1 : Int32)), .val (.ref wb), .val (.int (3 : Int32)), .val (.int (tt (((ff + (1 : Int32)) + (1 : Int32))).toNatClampNeg)), .val (.int (own_a (tt (((ff + (1 : Int32)) + (1 : Int32))).toNatClampNeg)))] [(.int (own_a (tt (((ff + (1 : Int32)) + (1 : Int32))).toNatClampNeg))), (.int (2 : Int32)), (.ref wb)])) := fun tq kq => G191 tq (by
                refine X183.arraylength hx (by rw [e183]; exact Ar192.1) (State.isArrayOf_alike hZ.alike Ar192.2.1) (g := (mkF m 152 #[.val (.ref ax), .val (.ref tx), .val (.int nn), .val (.int ((ff + (1 : Int32)) + (1 : Int32))), .val (.int ff), .val (.int (1 : Int32)), .val (.ref wb), .val (.int (2 : Int32)), .val (.int (tt (((ff + (1 : Int32)) + (1 : Int32))).toNatClampNeg)), .val (.int (own_a (tt (((ff + (1 : Int32)) + (1 : Int32))).toNatClampNeg)))] [(.ref wb), (.int (2 : Int32))])) rfl rfl (hb hby d6_152) _ ?_
                rw [len_of S192 M192]
                show Steps p.tables e below (T183.setTop (mkF m 153 #[.val (.ref ax), .val (.ref tx), .val (.int nn), .val (.int ((ff + (1 : Int32)) + (1 : Int32))), .val (.int ff), .val (.int (1 : Int32)), .val (.ref wb), .val (.int (2 : Int32)), .val (.int (tt (((ff + (1 : Int32)) + (1 : Int32))).toNatClampNeg)), .val (.int (own_a (tt (((ff + (1 : Int32)) + (1 : Int32))).toNatClampNeg)))] [(.int (64 : Int32)), (.int (2 : Int32))])) _
                refine XS.icmpYes X183.here hx rfl (pc0 := 153) (pc' := 167) rfl (hb hby d6_153) rfl (by decide) (by decide) (by decide) ?_
                show Steps p.tables e below (T183.setTop (mkF m 167 #[.val (.ref ax), .val (.ref tx), .val (.int nn), .val (.int ((ff + (1 : Int32)) + (1 : Int32))), .val (.int ff), .val (.int (1 : Int32)), .val (.ref wb), .val (.int (2 : Int32)), .val (.int (tt (((ff + (1 : Int32)) + (1 : Int32))).toNatClampNeg)), .val (.int (own_a (tt (((ff + (1 : Int32)) + (1 : Int32))).toNatClampNeg)))] [])) _
                refine XS.aload X183.here hx rfl (hb hby d6_167) rfl rfl ?_
                show Steps p.tables e below (T183.setTop (mkF m 169 #[.val (.ref ax), .val (.ref tx), .val (.int nn), .val (.int ((ff + (1 : Int32)) + (1 : Int32))), .val (.int ff), .val (.int (1 : Int32)), .val (.ref wb), .val (.int (2 : Int32)), .val (.int (tt (((ff + (1 : Int32)) + (1 : Int32))).toNatClampNeg)), .val (.int (own_a (tt (((ff + (1 : Int32)) + (1 : Int32))).toNatClampNeg)))] [(.ref wb)])) _
                refine XS.iload X183.here hx rfl (hb hby d6_169) rfl ?_
                show Steps p.tables e below (T183.setTop (mkF m 171 #[.val (.ref ax), .val (.ref tx), .val (.int nn), .val (.int ((ff + (1 : Int32)) + (1 : Int32))), .val (.int ff), .val (.int (1 : Int32)), .val (.ref wb), .val (.int (2 : Int32)), .val (.int (tt (((ff + (1 : Int32)) + (1 : Int32))).toNatClampNeg)), .val (.int (own_a (tt (((ff + (1 : Int32)) + (1 : Int32))).toNatClampNeg)))] [(.int (2 : Int32)), (.ref wb)])) _
                refine XS.iinc X183.here hx rfl (hb hby d6_171) rfl (l' := #[.val (.ref ax), .val (.ref tx), .val (.int nn), .val (.int ((ff + (1 : Int32)) + (1 : Int32))), .val (.int ff), .val (.int (1 : Int32)), .val (.ref wb), .val (.int ((2 : Int32) + (1 : Int32))), .val (.int (tt (((ff + (1 : Int32)) + (1 : Int32))).toNatClampNeg)), .val (.int (own_a (tt (((ff + (1 : Int32)) + (1 : Int32))).toNatClampNeg)))]) rfl ?_
                show Steps p.tables e below (T183.setTop (mkF m 174 #[.val (.ref ax), .val (.ref tx), .val (.int nn), .val (.int ((ff + (1 : Int32)) + (1 : Int32))), .val (.int ff), .val (.int (1 : Int32)), .val (.ref wb), .val (.int ((2 : Int32) + (1 : Int32))), .val (.int (tt (((ff + (1 : Int32)) + (1 : Int32))).toNatClampNeg)), .val (.int (own_a (tt (((ff + (1 : Int32)) + (1 : Int32))).toNatClampNeg)))] [(.int (2 : Int32)), (.ref wb)])) _
                rw [show ((2 : Int32) + (1 : Int32)) = (3 : Int32) from (by decide : ((2 : Int32) + (1 : Int32)) = (3 : Int32))]
                show Steps p.tables e below (T183.setTop (mkF m 174 #[.val (.ref ax), .val (.ref tx), .val (.int nn), .val (.int ((ff + (1 : Int32)) + (1 : Int32))), .val (.int ff), .val (.int (1 : Int32)), .val (.ref wb), .val (.int (3 : Int32)), .val (.int (tt (((ff + (1 : Int32)) + (1 : Int32))).toNatClampNeg)), .val (.int (own_a (tt (((ff + (1 : Int32)) + (1 : Int32))).toNatClampNeg)))] [(.int (2 : Int32)), (.ref wb)])) _
                refine XS.iload X183.here hx rfl (hb hby d6_174) rfl ?_
                show Steps p.tables e below (T183.setTop (mkF m 176 #[.val (.ref ax), .val (.ref tx), .val (.int nn), .val (.int ((ff + (1 : Int32)) + (1 : Int32))), .val (.int ff), .val (.int (1 : Int32)), .val (.ref wb), .val (.int (3 : Int32)), .val (.int (tt (((ff + (1 : Int32)) + (1 : Int32))).toNatClampNeg)), .val (.int (own_a (tt (((ff + (1 : Int32)) + (1 : Int32))).toNatClampNeg)))] [(.int (own_a (tt (((ff + (1 : Int32)) + (1 : Int32))).toNatClampNeg))), (.int (2 : Int32)), (.ref wb)])) _
                exact kq)
              obtain ⟨cl194, Ar194, q194, S194, M194, H194⟩ := id V173
              have hi195 : ¬ ((2 : Int32) < 0 ∨ cl194.slots.size ≤ ((2 : Int32)).toNatClampNeg) := (inb_of S194 ⟨by decide, by decide⟩)
              obtain ⟨T196, h196, X196, e196, W196, st196⟩ := stB X183 hx hZ e183 Ar194 (j := (2 : Int32)) hi195 (g := (mkF m 176 #[.val (.ref ax), .val (.ref tx), .val (.int nn), .val (.int ((ff + (1 : Int32)) + (1 : Int32))), .val (.int ff), .val (.int (1 : Int32)), .val (.ref wb), .val (.int (3 : Int32)), .val (.int (tt (((ff + (1 : Int32)) + (1 : Int32))).toNatClampNeg)), .val (.int (own_a (tt (((ff + (1 : Int32)) + (1 : Int32))).toNatClampNeg)))] [(.int (own_a (tt (((ff + (1 : Int32)) + (1 : Int32))).toNatClampNeg))), (.int (2 : Int32)), (.ref wb)])) rfl rfl (hb hby d6_176)
              rw [show nar .byte (own_a (tt (((ff + (1 : Int32)) + (1 : Int32))).toNatClampNeg)) = (own_a (tt (((ff + (1 : Int32)) + (1 : Int32))).toNatClampNeg)) from own_naB _] at W196
              have N196 := Fr.snoc X196 N173 gwb
              have V196 : Af Z h196 wb kw .byte (64 : Int32) (fun i => .int ((own_up (own_up (own_up gw 0 (own_a (tt (ff).toNatClampNeg))) 1 (own_a (tt ((ff + (1 : Int32))).toNatClampNeg))) 2 (own_a (tt (((ff + (1 : Int32)) + (1 : Int32))).toNatClampNeg))) i)) := (Af.set Ar194 q194 S194 M194 H194 W196 hi195).fn (fun j _ => own_upf _ _ _ _ rfl j)
              have G197 : Go p e below A0 (T196.setTop (mkF m 177 #[.val (.ref ax), .val (.ref tx), .val (.int nn), .val (.int ((ff + (1 : Int32)) + (1 : Int32))), .val (.int ff), .val (.int (1 : Int32)), .val (.ref wb), .val (.int (3 : Int32)), .val (.int (tt (((ff + (1 : Int32)) + (1 : Int32))).toNatClampNeg)), .val (.int (own_a (tt (((ff + (1 : Int32)) + (1 : Int32))).toNatClampNeg)))] [])) := fun tq kq => G193 tq (st196 _ kq)
              have G198 : Go p e below A0 (T196.setTop (mkF m 286 #[.val (.ref ax), .val (.ref tx), .val (.int nn), .val (.int (((ff + (1 : Int32)) + (1 : Int32)) + (1 : Int32))), .val (.int ff), .val (.int (1 : Int32)), .val (.ref wb), .val (.int (3 : Int32)), .val (.int (tt (((ff + (1 : Int32)) + (1 : Int32))).toNatClampNeg)), .val (.int (own_a (tt (((ff + (1 : Int32)) + (1 : Int32))).toNatClampNeg)))] [(.int (((ff + (1 : Int32)) + (1 : Int32)) + (1 : Int32))), (.ref ax)])) := fun tq kq => G197 tq (by
                refine XS.iinc X196.here hx rfl (hb hby d6_177) rfl (l' := #[.val (.ref ax), .val (.ref tx), .val (.int nn), .val (.int (((ff + (1 : Int32)) + (1 : Int32)) + (1 : Int32))), .val (.int ff), .val (.int (1 : Int32)), .val (.ref wb), .val (.int (3 : Int32)), .val (.int (tt (((ff + (1 : Int32)) + (1 : Int32))).toNatClampNeg)), .val (.int (own_a (tt (((ff + (1 : Int32)) + (1 : Int32))).toNatClampNeg)))]) rfl ?_
                show Steps p.tables e below (T196.setTop (mkF m 180 #[.val (.ref ax), .val (.ref tx), .val (.int nn), .val (.int (((ff + (1 : Int32)) + (1 : Int32)) + (1 : Int32))), .val (.int ff), .val (.int (1 : Int32)), .val (.ref wb), .val (.int (3 : Int32)), .val (.int (tt (((ff + (1 : Int32)) + (1 : Int32))).toNatClampNeg)), .val (.int (own_a (tt (((ff + (1 : Int32)) + (1 : Int32))).toNatClampNeg)))] [])) _
                refine XS.goto X196.here hx rfl (pc0 := 180) (pc' := 213) rfl (hb hby d6_180) (by decide) (by decide) ?_
                show Steps p.tables e below (T196.setTop (mkF m 213 #[.val (.ref ax), .val (.ref tx), .val (.int nn), .val (.int (((ff + (1 : Int32)) + (1 : Int32)) + (1 : Int32))), .val (.int ff), .val (.int (1 : Int32)), .val (.ref wb), .val (.int (3 : Int32)), .val (.int (tt (((ff + (1 : Int32)) + (1 : Int32))).toNatClampNeg)), .val (.int (own_a (tt (((ff + (1 : Int32)) + (1 : Int32))).toNatClampNeg)))] [])) _
                refine XS.goto X196.here hx rfl (pc0 := 213) (pc' := 114) rfl (hb hby d6_213) (by decide) (by decide) ?_
                show Steps p.tables e below (T196.setTop (mkF m 114 #[.val (.ref ax), .val (.ref tx), .val (.int nn), .val (.int (((ff + (1 : Int32)) + (1 : Int32)) + (1 : Int32))), .val (.int ff), .val (.int (1 : Int32)), .val (.ref wb), .val (.int (3 : Int32)), .val (.int (tt (((ff + (1 : Int32)) + (1 : Int32))).toNatClampNeg)), .val (.int (own_a (tt (((ff + (1 : Int32)) + (1 : Int32))).toNatClampNeg)))] [])) _
                refine XS.iloadN X196.here hx rfl (hb hby d6_114) rfl ?_
                show Steps p.tables e below (T196.setTop (mkF m 115 #[.val (.ref ax), .val (.ref tx), .val (.int nn), .val (.int (((ff + (1 : Int32)) + (1 : Int32)) + (1 : Int32))), .val (.int ff), .val (.int (1 : Int32)), .val (.ref wb), .val (.int (3 : Int32)), .val (.int (tt (((ff + (1 : Int32)) + (1 : Int32))).toNatClampNeg)), .val (.int (own_a (tt (((ff + (1 : Int32)) + (1 : Int32))).toNatClampNeg)))] [(.int (((ff + (1 : Int32)) + (1 : Int32)) + (1 : Int32)))])) _
                refine XS.iloadN X196.here hx rfl (hb hby d6_115) rfl ?_
                show Steps p.tables e below (T196.setTop (mkF m 116 #[.val (.ref ax), .val (.ref tx), .val (.int nn), .val (.int (((ff + (1 : Int32)) + (1 : Int32)) + (1 : Int32))), .val (.int ff), .val (.int (1 : Int32)), .val (.ref wb), .val (.int (3 : Int32)), .val (.int (tt (((ff + (1 : Int32)) + (1 : Int32))).toNatClampNeg)), .val (.int (own_a (tt (((ff + (1 : Int32)) + (1 : Int32))).toNatClampNeg)))] [(.int nn), (.int (((ff + (1 : Int32)) + (1 : Int32)) + (1 : Int32)))])) _
                refine XS.icmpYes X196.here hx rfl (pc0 := 116) (pc' := 216) rfl (hb hby d6_116) rfl (flt mi181).2.1 (by decide) (by decide) ?_
                show Steps p.tables e below (T196.setTop (mkF m 216 #[.val (.ref ax), .val (.ref tx), .val (.int nn), .val (.int (((ff + (1 : Int32)) + (1 : Int32)) + (1 : Int32))), .val (.int ff), .val (.int (1 : Int32)), .val (.ref wb), .val (.int (3 : Int32)), .val (.int (tt (((ff + (1 : Int32)) + (1 : Int32))).toNatClampNeg)), .val (.int (own_a (tt (((ff + (1 : Int32)) + (1 : Int32))).toNatClampNeg)))] [])) _
                refine XS.iload X196.here hx rfl (hb hby d6_216) rfl ?_
                show Steps p.tables e below (T196.setTop (mkF m 218 #[.val (.ref ax), .val (.ref tx), .val (.int nn), .val (.int (((ff + (1 : Int32)) + (1 : Int32)) + (1 : Int32))), .val (.int ff), .val (.int (1 : Int32)), .val (.ref wb), .val (.int (3 : Int32)), .val (.int (tt (((ff + (1 : Int32)) + (1 : Int32))).toNatClampNeg)), .val (.int (own_a (tt (((ff + (1 : Int32)) + (1 : Int32))).toNatClampNeg)))] [(.int (1 : Int32))])) _
                refine XS.ifYes X196.here hx rfl (pc0 := 218) (pc' := 284) rfl (hb hby d6_218) rfl (by decide) (by decide) (by decide) ?_
                show Steps p.tables e below (T196.setTop (mkF m 284 #[.val (.ref ax), .val (.ref tx), .val (.int nn), .val (.int (((ff + (1 : Int32)) + (1 : Int32)) + (1 : Int32))), .val (.int ff), .val (.int (1 : Int32)), .val (.ref wb), .val (.int (3 : Int32)), .val (.int (tt (((ff + (1 : Int32)) + (1 : Int32))).toNatClampNeg)), .val (.int (own_a (tt (((ff + (1 : Int32)) + (1 : Int32))).toNatClampNeg)))] [])) _
                refine XS.aloadN X196.here hx rfl (hb hby d6_284) rfl rfl ?_
                show Steps p.tables e below (T196.setTop (mkF m 285 #[.val (.ref ax), .val (.ref tx), .val (.int nn), .val (.int (((ff + (1 : Int32)) + (1 : Int32)) + (1 : Int32))), .val (.int ff), .val (.int (1 : Int32)), .val (.ref wb), .val (.int (3 : Int32)), .val (.int (tt (((ff + (1 : Int32)) + (1 : Int32))).toNatClampNeg)), .val (.int (own_a (tt (((ff + (1 : Int32)) + (1 : Int32))).toNatClampNeg)))] [(.ref ax)])) _
                refine XS.iloadN X196.here hx rfl (hb hby d6_285) rfl ?_
                show Steps p.tables e below (T196.setTop (mkF m 286 #[.val (.ref ax), .val (.ref tx), .val (.int nn), .val (.int (((ff + (1 : Int32)) + (1 : Int32)) + (1 : Int32))), .val (.int ff), .val (.int (1 : Int32)), .val (.ref wb), .val (.int (3 : Int32)), .val (.int (tt (((ff + (1 : Int32)) + (1 : Int32))).toNatClampNeg)), .val (.int (own_a (tt (((ff + (1 : Int32)) + (1 : Int32))).toNatClampNeg)))] [(.int (((ff + (1 : Int32)) + (1 : Int32)) + (1 : Int32))), (.ref ax)])) _
                exact kq)
              have f199 := ((((E.wr W126).wr W150).wr W173).wr W196)
              have f200 := (((fw126.other W150 (Or.inl haw)).other W173 (Or.inl haw)).other W196 (Or.inl haw))
              obtain ⟨T201, h201, X201, e201, W201, st201⟩ := putF X196 hx hZ hown (host := "") (Or.inl (hw _ (List.mem_of_getElem? (i := 27) rfl))) Via.refl e196 f200 f199 (Or.inl (hw _ (List.mem_of_getElem? (i := 28) rfl))) (hw _ (List.mem_of_getElem? (i := 9) rfl)) (ty := .int) (by decide) rfl rfl (g := (mkF m 286 #[.val (.ref ax), .val (.ref tx), .val (.int nn), .val (.int (((ff + (1 : Int32)) + (1 : Int32)) + (1 : Int32))), .val (.int ff), .val (.int (1 : Int32)), .val (.ref wb), .val (.int (3 : Int32)), .val (.int (tt (((ff + (1 : Int32)) + (1 : Int32))).toNatClampNeg)), .val (.int (own_a (tt (((ff + (1 : Int32)) + (1 : Int32))).toNatClampNeg)))] [(.int (((ff + (1 : Int32)) + (1 : Int32)) + (1 : Int32))), (.ref ax)])) rfl rfl (hb hby d6_286)
              have N201 := Fr.snoc X201 N196 gax
              have fw201 := f200.same W201
              have G202 : Go p e below A0 (T201.setTop (mkF m 289 #[.val (.ref ax), .val (.ref tx), .val (.int nn), .val (.int (((ff + (1 : Int32)) + (1 : Int32)) + (1 : Int32))), .val (.int ff), .val (.int (1 : Int32)), .val (.ref wb), .val (.int (3 : Int32)), .val (.int (tt (((ff + (1 : Int32)) + (1 : Int32))).toNatClampNeg)), .val (.int (own_a (tt (((ff + (1 : Int32)) + (1 : Int32))).toNatClampNeg)))] [])) := fun tq kq => G198 tq (st201 _ kq)
              have G203 : Go p e below A0 (T201.setTop (mkF m 292 #[.val (.ref ax), .val (.ref tx), .val (.int nn), .val (.int (((ff + (1 : Int32)) + (1 : Int32)) + (1 : Int32))), .val (.int ff), .val (.int (1 : Int32)), .val (.ref wb), .val (.int (3 : Int32)), .val (.int (tt (((ff + (1 : Int32)) + (1 : Int32))).toNatClampNeg)), .val (.int (own_a (tt (((ff + (1 : Int32)) + (1 : Int32))).toNatClampNeg)))] [(.ref wb), (.ref ax)])) := fun tq kq => G202 tq (by
                refine XS.aloadN X201.here hx rfl (hb hby d6_289) rfl rfl ?_
                show Steps p.tables e below (T201.setTop (mkF m 290 #[.val (.ref ax), .val (.ref tx), .val (.int nn), .val (.int (((ff + (1 : Int32)) + (1 : Int32)) + (1 : Int32))), .val (.int ff), .val (.int (1 : Int32)), .val (.ref wb), .val (.int (3 : Int32)), .val (.int (tt (((ff + (1 : Int32)) + (1 : Int32))).toNatClampNeg)), .val (.int (own_a (tt (((ff + (1 : Int32)) + (1 : Int32))).toNatClampNeg)))] [(.ref ax)])) _
                refine XS.aload X201.here hx rfl (hb hby d6_290) rfl rfl ?_
                show Steps p.tables e below (T201.setTop (mkF m 292 #[.val (.ref ax), .val (.ref tx), .val (.int nn), .val (.int (((ff + (1 : Int32)) + (1 : Int32)) + (1 : Int32))), .val (.int ff), .val (.int (1 : Int32)), .val (.ref wb), .val (.int (3 : Int32)), .val (.int (tt (((ff + (1 : Int32)) + (1 : Int32))).toNatClampNeg)), .val (.int (own_a (tt (((ff + (1 : Int32)) + (1 : Int32))).toNatClampNeg)))] [(.ref wb), (.ref ax)])) _
                exact kq)
              have f204 := (f199.wr W201)
              have f205 := ((((f129.other W150 (Or.inl haw)).other W173 (Or.inl haw)).other W196 (Or.inl haw)).other W201 (Or.inr (slot_ne (Or.inl (hw _ (List.mem_of_getElem? (i := 19) rfl))) (Or.inl (hw _ (List.mem_of_getElem? (i := 28) rfl))) (by decide) (t := (.array .byte)) (t' := .int) (by decide) (by decide))))
              obtain ⟨T206, h206, X206, e206, W206, st206⟩ := putF X201 hx hZ hown (host := "") (Or.inl (hw _ (List.mem_of_getElem? (i := 18) rfl))) Via.refl e201 f205 f204 (Or.inl (hw _ (List.mem_of_getElem? (i := 19) rfl))) (hw _ (List.mem_of_getElem? (i := 9) rfl)) (ty := (.array .byte)) (by decide) rfl rfl (g := (mkF m 292 #[.val (.ref ax), .val (.ref tx), .val (.int nn), .val (.int (((ff + (1 : Int32)) + (1 : Int32)) + (1 : Int32))), .val (.int ff), .val (.int (1 : Int32)), .val (.ref wb), .val (.int (3 : Int32)), .val (.int (tt (((ff + (1 : Int32)) + (1 : Int32))).toNatClampNeg)), .val (.int (own_a (tt (((ff + (1 : Int32)) + (1 : Int32))).toNatClampNeg)))] [(.ref wb), (.ref ax)])) rfl rfl (hb hby d6_292)
              have N206 := Fr.snoc X206 N201 gax
              have fw206 := f205.same W206
              have G207 : Go p e below A0 (T206.setTop (mkF m 295 #[.val (.ref ax), .val (.ref tx), .val (.int nn), .val (.int (((ff + (1 : Int32)) + (1 : Int32)) + (1 : Int32))), .val (.int ff), .val (.int (1 : Int32)), .val (.ref wb), .val (.int (3 : Int32)), .val (.int (tt (((ff + (1 : Int32)) + (1 : Int32))).toNatClampNeg)), .val (.int (own_a (tt (((ff + (1 : Int32)) + (1 : Int32))).toNatClampNeg)))] [])) := fun tq kq => G203 tq (st206 _ kq)
              have G208 : Go p e below A0 (T206.setTop (mkF m 298 #[.val (.ref ax), .val (.ref tx), .val (.int nn), .val (.int (((ff + (1 : Int32)) + (1 : Int32)) + (1 : Int32))), .val (.int ff), .val (.int (1 : Int32)), .val (.ref wb), .val (.int (3 : Int32)), .val (.int (tt (((ff + (1 : Int32)) + (1 : Int32))).toNatClampNeg)), .val (.int (own_a (tt (((ff + (1 : Int32)) + (1 : Int32))).toNatClampNeg)))] [(.int (3 : Int32)), (.ref ax)])) := fun tq kq => G207 tq (by
                refine XS.aloadN X206.here hx rfl (hb hby d6_295) rfl rfl ?_
                show Steps p.tables e below (T206.setTop (mkF m 296 #[.val (.ref ax), .val (.ref tx), .val (.int nn), .val (.int (((ff + (1 : Int32)) + (1 : Int32)) + (1 : Int32))), .val (.int ff), .val (.int (1 : Int32)), .val (.ref wb), .val (.int (3 : Int32)), .val (.int (tt (((ff + (1 : Int32)) + (1 : Int32))).toNatClampNeg)), .val (.int (own_a (tt (((ff + (1 : Int32)) + (1 : Int32))).toNatClampNeg)))] [(.ref ax)])) _
                refine XS.iload X206.here hx rfl (hb hby d6_296) rfl ?_
                show Steps p.tables e below (T206.setTop (mkF m 298 #[.val (.ref ax), .val (.ref tx), .val (.int nn), .val (.int (((ff + (1 : Int32)) + (1 : Int32)) + (1 : Int32))), .val (.int ff), .val (.int (1 : Int32)), .val (.ref wb), .val (.int (3 : Int32)), .val (.int (tt (((ff + (1 : Int32)) + (1 : Int32))).toNatClampNeg)), .val (.int (own_a (tt (((ff + (1 : Int32)) + (1 : Int32))).toNatClampNeg)))] [(.int (3 : Int32)), (.ref ax)])) _
                exact kq)
              have f209 := (f204.wr W206)
              have f210 := ((((((F_length.other W126 (Or.inr (slot_ne (Or.inl (hw _ (List.mem_of_getElem? (i := 32) rfl))) (Or.inl (hw _ (List.mem_of_getElem? (i := 28) rfl))) (by decide) (t := .int) (t' := .int) (by decide) (by decide)))).other W150 (Or.inl haw)).other W173 (Or.inl haw)).other W196 (Or.inl haw)).other W201 (Or.inr (slot_ne (Or.inl (hw _ (List.mem_of_getElem? (i := 32) rfl))) (Or.inl (hw _ (List.mem_of_getElem? (i := 28) rfl))) (by decide) (t := .int) (t' := .int) (by decide) (by decide)))).other W206 (Or.inr (slot_ne (Or.inl (hw _ (List.mem_of_getElem? (i := 32) rfl))) (Or.inl (hw _ (List.mem_of_getElem? (i := 19) rfl))) (by decide) (t := .int) (t' := (.array .byte)) (by decide) (by decide))))
              obtain ⟨T211, h211, X211, e211, W211, st211⟩ := putF X206 hx hZ hown (host := "") (Or.inl (hw _ (List.mem_of_getElem? (i := 31) rfl))) Via.refl e206 f210 f209 (Or.inl (hw _ (List.mem_of_getElem? (i := 32) rfl))) (hw _ (List.mem_of_getElem? (i := 9) rfl)) (ty := .int) (by decide) rfl rfl (g := (mkF m 298 #[.val (.ref ax), .val (.ref tx), .val (.int nn), .val (.int (((ff + (1 : Int32)) + (1 : Int32)) + (1 : Int32))), .val (.int ff), .val (.int (1 : Int32)), .val (.ref wb), .val (.int (3 : Int32)), .val (.int (tt (((ff + (1 : Int32)) + (1 : Int32))).toNatClampNeg)), .val (.int (own_a (tt (((ff + (1 : Int32)) + (1 : Int32))).toNatClampNeg)))] [(.int (3 : Int32)), (.ref ax)])) rfl rfl (hb hby d6_298)
              have N211 := Fr.snoc X211 N206 gax
              have fw211 := f210.same W211
              have G212 : Go p e below A0 (T211.setTop (mkF m 301 #[.val (.ref ax), .val (.ref tx), .val (.int nn), .val (.int (((ff + (1 : Int32)) + (1 : Int32)) + (1 : Int32))), .val (.int ff), .val (.int (1 : Int32)), .val (.ref wb), .val (.int (3 : Int32)), .val (.int (tt (((ff + (1 : Int32)) + (1 : Int32))).toNatClampNeg)), .val (.int (own_a (tt (((ff + (1 : Int32)) + (1 : Int32))).toNatClampNeg)))] [])) := fun tq kq => G208 tq (st211 _ kq)
              have G213 : Go p e below A0 (T211.setTop (mkF m 302 #[.val (.ref ax), .val (.ref tx), .val (.int nn), .val (.int (((ff + (1 : Int32)) + (1 : Int32)) + (1 : Int32))), .val (.int ff), .val (.int (1 : Int32)), .val (.ref wb), .val (.int (3 : Int32)), .val (.int (tt (((ff + (1 : Int32)) + (1 : Int32))).toNatClampNeg)), .val (.int (own_a (tt (((ff + (1 : Int32)) + (1 : Int32))).toNatClampNeg)))] [(.int (1 : Int32))])) := fun tq kq => G212 tq (by
                refine XS.iconst X211.here hx rfl (hb hby d6_301) ?_
                show Steps p.tables e below (T211.setTop (mkF m 302 #[.val (.ref ax), .val (.ref tx), .val (.int nn), .val (.int (((ff + (1 : Int32)) + (1 : Int32)) + (1 : Int32))), .val (.int ff), .val (.int (1 : Int32)), .val (.ref wb), .val (.int (3 : Int32)), .val (.int (tt (((ff + (1 : Int32)) + (1 : Int32))).toNatClampNeg)), .val (.int (own_a (tt (((ff + (1 : Int32)) + (1 : Int32))).toNatClampNeg)))] [(.int (1 : Int32))])) _
                exact kq)
              have f214 := (((((((F_text.other W126 (Or.inr (slot_ne (Or.inl (hw _ (List.mem_of_getElem? (i := 26) rfl))) (Or.inl (hw _ (List.mem_of_getElem? (i := 28) rfl))) (by decide) (t := (.array .char)) (t' := .int) (by decide) (by decide)))).other W150 (Or.inl haw)).other W173 (Or.inl haw)).other W196 (Or.inl haw)).other W201 (Or.inr (slot_ne (Or.inl (hw _ (List.mem_of_getElem? (i := 26) rfl))) (Or.inl (hw _ (List.mem_of_getElem? (i := 28) rfl))) (by decide) (t := (.array .char)) (t' := .int) (by decide) (by decide)))).other W206 (Or.inr (slot_ne (Or.inl (hw _ (List.mem_of_getElem? (i := 26) rfl))) (Or.inl (hw _ (List.mem_of_getElem? (i := 19) rfl))) (by decide) (t := (.array .char)) (t' := (.array .byte)) (by decide) (by decide)))).other W211 (Or.inr (slot_ne (Or.inl (hw _ (List.mem_of_getElem? (i := 26) rfl))) (Or.inl (hw _ (List.mem_of_getElem? (i := 32) rfl))) (by decide) (t := (.array .char)) (t' := .int) (by decide) (by decide))))
              have f215 := ((fw201.other W206 (Or.inr (slot_ne (Or.inl (hw _ (List.mem_of_getElem? (i := 28) rfl))) (Or.inl (hw _ (List.mem_of_getElem? (i := 19) rfl))) (by decide) (t := .int) (t' := (.array .byte)) (by decide) (by decide)))).other W211 (Or.inr (slot_ne (Or.inl (hw _ (List.mem_of_getElem? (i := 28) rfl))) (Or.inl (hw _ (List.mem_of_getElem? (i := 32) rfl))) (by decide) (t := .int) (t' := .int) (by decide) (by decide))))
              have f216 := (((((((F_to.other W126 (Or.inr (slot_ne (Or.inl (hw _ (List.mem_of_getElem? (i := 30) rfl))) (Or.inl (hw _ (List.mem_of_getElem? (i := 28) rfl))) (by decide) (t := .int) (t' := .int) (by decide) (by decide)))).other W150 (Or.inl haw)).other W173 (Or.inl haw)).other W196 (Or.inl haw)).other W201 (Or.inr (slot_ne (Or.inl (hw _ (List.mem_of_getElem? (i := 30) rfl))) (Or.inl (hw _ (List.mem_of_getElem? (i := 28) rfl))) (by decide) (t := .int) (t' := .int) (by decide) (by decide)))).other W206 (Or.inr (slot_ne (Or.inl (hw _ (List.mem_of_getElem? (i := 30) rfl))) (Or.inl (hw _ (List.mem_of_getElem? (i := 19) rfl))) (by decide) (t := .int) (t' := (.array .byte)) (by decide) (by decide)))).other W211 (Or.inr (slot_ne (Or.inl (hw _ (List.mem_of_getElem? (i := 30) rfl))) (Or.inl (hw _ (List.mem_of_getElem? (i := 32) rfl))) (by decide) (t := .int) (t' := .int) (by decide) (by decide))))
              have f217 := (fw206.other W211 (Or.inr (slot_ne (Or.inl (hw _ (List.mem_of_getElem? (i := 19) rfl))) (Or.inl (hw _ (List.mem_of_getElem? (i := 32) rfl))) (by decide) (t := (.array .byte)) (t' := .int) (by decide) (by decide))))
              have f218 := (((V196.other W201 (Ne.symm haw)).other W206 (Ne.symm haw)).other W211 (Ne.symm haw))
              have e1 : sv = ff := by rw [hS]; simp only [own_b, own_st, hc112, hc124, hc153, hc167, hc176, mi181, hc190, not_true_eq_false, not_false_eq_true, if_true, if_false, or_true, true_or, or_false, false_or, and_true, true_and, and_false, false_and, and_self, or_self]
              have e2 : ev = (((ff + (1 : Int32)) + (1 : Int32)) + (1 : Int32)) := by rw [hE, e1]; simp only [own_b, own_en, hc112, hc124, hc153, hc167, hc176, mi181, hc190, not_true_eq_false, not_false_eq_true, if_true, if_false, or_true, true_or, or_false, false_or, and_true, true_and, and_false, false_and, and_self, or_self]
              obtain ⟨fs, hr, hrun, hended, hW, hsame⟩ := X211.leave (v := some (.int (nar .boolean (1 : Int32)))) (fun h => by rw [Bd.returns] at h; cases h)
              refine ⟨_, _, (by rw [← hA0]; exact G213 _ (retN X211 hx (t := .boolean) Bd.returns (by simp) (hb hby d6_302) hr)), hrun, hended, _, _, rfl, ?_, ⟨_, rfl⟩, hW, hsame.mono (by decide) (by decide)⟩
              show Qnx Z ax tx wb tt nn sv ev kw h0 n0 _ T211.heap _
              rw [e211]
              rw [e1, e2]
              exact ⟨(own_up (own_up (own_up gw 0 (own_a (tt (ff).toNatClampNeg))) 1 (own_a (tt ((ff + (1 : Int32))).toNatClampNeg))) 2 (own_a (tt (((ff + (1 : Int32)) + (1 : Int32))).toNatClampNeg))), (by rw [own_bt (own_ltne hc112)]; rfl), N211, ((((((((Keep.refl h0 [ax, wb]).wr W126 (Or.inl (List.mem_of_getElem? (i := 0) rfl))).wr W150 (Or.inl (List.mem_of_getElem? (i := 1) rfl))).wr W173 (Or.inl (List.mem_of_getElem? (i := 1) rfl))).wr W196 (Or.inl (List.mem_of_getElem? (i := 1) rfl))).wr W201 (Or.inl (List.mem_of_getElem? (i := 0) rfl))).wr W206 (Or.inl (List.mem_of_getElem? (i := 0) rfl))).wr W211 (Or.inl (List.mem_of_getElem? (i := 0) rfl))), f214, f215, f216, (by rw [← own_d3]; exact fw211), f217, f218, own_ct3 hc124 hc167 hc190⟩
            · have G219 : Go p e below A0 (T183.setTop (mkF m 286 #[.val (.ref ax), .val (.ref tx), .val (.int nn), .val (.int ((ff + (1 : Int32)) + (1 : Int32))), .val (.int ff), .val (.int (1 : Int32)), .val (.ref wb), .val (.int (2 : Int32)), .val (.int (tt (((ff + (1 : Int32)) + (1 : Int32))).toNatClampNeg)), .val (.int (own_a (tt (((ff + (1 : Int32)) + (1 : Int32))).toNatClampNeg)))] [(.int ((ff + (1 : Int32)) + (1 : Int32))), (.ref ax)])) := fun tq kq => G189 tq (by
                refine XS.ifNo X183.here hx rfl (hb hby d6_142) rfl ((if0 _ _).trans (teq (own_a0 hc190)).2) ?_
                show Steps p.tables e below (T183.setTop (mkF m 145 #[.val (.ref ax), .val (.ref tx), .val (.int nn), .val (.int ((ff + (1 : Int32)) + (1 : Int32))), .val (.int ff), .val (.int (1 : Int32)), .val (.ref wb), .val (.int (2 : Int32)), .val (.int (tt (((ff + (1 : Int32)) + (1 : Int32))).toNatClampNeg)), .val (.int (own_a (tt (((ff + (1 : Int32)) + (1 : Int32))).toNatClampNeg)))] [])) _
                refine XS.goto X183.here hx rfl (pc0 := 145) (pc' := 216) rfl (hb hby d6_145) (by decide) (by decide) ?_
                show Steps p.tables e below (T183.setTop (mkF m 216 #[.val (.ref ax), .val (.ref tx), .val (.int nn), .val (.int ((ff + (1 : Int32)) + (1 : Int32))), .val (.int ff), .val (.int (1 : Int32)), .val (.ref wb), .val (.int (2 : Int32)), .val (.int (tt (((ff + (1 : Int32)) + (1 : Int32))).toNatClampNeg)), .val (.int (own_a (tt (((ff + (1 : Int32)) + (1 : Int32))).toNatClampNeg)))] [])) _
                refine XS.iload X183.here hx rfl (hb hby d6_216) rfl ?_
                show Steps p.tables e below (T183.setTop (mkF m 218 #[.val (.ref ax), .val (.ref tx), .val (.int nn), .val (.int ((ff + (1 : Int32)) + (1 : Int32))), .val (.int ff), .val (.int (1 : Int32)), .val (.ref wb), .val (.int (2 : Int32)), .val (.int (tt (((ff + (1 : Int32)) + (1 : Int32))).toNatClampNeg)), .val (.int (own_a (tt (((ff + (1 : Int32)) + (1 : Int32))).toNatClampNeg)))] [(.int (1 : Int32))])) _
                refine XS.ifYes X183.here hx rfl (pc0 := 218) (pc' := 284) rfl (hb hby d6_218) rfl (by decide) (by decide) (by decide) ?_
                show Steps p.tables e below (T183.setTop (mkF m 284 #[.val (.ref ax), .val (.ref tx), .val (.int nn), .val (.int ((ff + (1 : Int32)) + (1 : Int32))), .val (.int ff), .val (.int (1 : Int32)), .val (.ref wb), .val (.int (2 : Int32)), .val (.int (tt (((ff + (1 : Int32)) + (1 : Int32))).toNatClampNeg)), .val (.int (own_a (tt (((ff + (1 : Int32)) + (1 : Int32))).toNatClampNeg)))] [])) _
                refine XS.aloadN X183.here hx rfl (hb hby d6_284) rfl rfl ?_
                show Steps p.tables e below (T183.setTop (mkF m 285 #[.val (.ref ax), .val (.ref tx), .val (.int nn), .val (.int ((ff + (1 : Int32)) + (1 : Int32))), .val (.int ff), .val (.int (1 : Int32)), .val (.ref wb), .val (.int (2 : Int32)), .val (.int (tt (((ff + (1 : Int32)) + (1 : Int32))).toNatClampNeg)), .val (.int (own_a (tt (((ff + (1 : Int32)) + (1 : Int32))).toNatClampNeg)))] [(.ref ax)])) _
                refine XS.iloadN X183.here hx rfl (hb hby d6_285) rfl ?_
                show Steps p.tables e below (T183.setTop (mkF m 286 #[.val (.ref ax), .val (.ref tx), .val (.int nn), .val (.int ((ff + (1 : Int32)) + (1 : Int32))), .val (.int ff), .val (.int (1 : Int32)), .val (.ref wb), .val (.int (2 : Int32)), .val (.int (tt (((ff + (1 : Int32)) + (1 : Int32))).toNatClampNeg)), .val (.int (own_a (tt (((ff + (1 : Int32)) + (1 : Int32))).toNatClampNeg)))] [(.int ((ff + (1 : Int32)) + (1 : Int32))), (.ref ax)])) _
                exact kq)
              have f220 := (((E.wr W126).wr W150).wr W173)
              have f221 := ((fw126.other W150 (Or.inl haw)).other W173 (Or.inl haw))
              obtain ⟨T222, h222, X222, e222, W222, st222⟩ := putF X183 hx hZ hown (host := "") (Or.inl (hw _ (List.mem_of_getElem? (i := 27) rfl))) Via.refl e183 f221 f220 (Or.inl (hw _ (List.mem_of_getElem? (i := 28) rfl))) (hw _ (List.mem_of_getElem? (i := 9) rfl)) (ty := .int) (by decide) rfl rfl (g := (mkF m 286 #[.val (.ref ax), .val (.ref tx), .val (.int nn), .val (.int ((ff + (1 : Int32)) + (1 : Int32))), .val (.int ff), .val (.int (1 : Int32)), .val (.ref wb), .val (.int (2 : Int32)), .val (.int (tt (((ff + (1 : Int32)) + (1 : Int32))).toNatClampNeg)), .val (.int (own_a (tt (((ff + (1 : Int32)) + (1 : Int32))).toNatClampNeg)))] [(.int ((ff + (1 : Int32)) + (1 : Int32))), (.ref ax)])) rfl rfl (hb hby d6_286)
              have N222 := Fr.snoc X222 N173 gax
              have fw222 := f221.same W222
              have G223 : Go p e below A0 (T222.setTop (mkF m 289 #[.val (.ref ax), .val (.ref tx), .val (.int nn), .val (.int ((ff + (1 : Int32)) + (1 : Int32))), .val (.int ff), .val (.int (1 : Int32)), .val (.ref wb), .val (.int (2 : Int32)), .val (.int (tt (((ff + (1 : Int32)) + (1 : Int32))).toNatClampNeg)), .val (.int (own_a (tt (((ff + (1 : Int32)) + (1 : Int32))).toNatClampNeg)))] [])) := fun tq kq => G219 tq (st222 _ kq)
              have G224 : Go p e below A0 (T222.setTop (mkF m 292 #[.val (.ref ax), .val (.ref tx), .val (.int nn), .val (.int ((ff + (1 : Int32)) + (1 : Int32))), .val (.int ff), .val (.int (1 : Int32)), .val (.ref wb), .val (.int (2 : Int32)), .val (.int (tt (((ff + (1 : Int32)) + (1 : Int32))).toNatClampNeg)), .val (.int (own_a (tt (((ff + (1 : Int32)) + (1 : Int32))).toNatClampNeg)))] [(.ref wb), (.ref ax)])) := fun tq kq => G223 tq (by
                refine XS.aloadN X222.here hx rfl (hb hby d6_289) rfl rfl ?_
                show Steps p.tables e below (T222.setTop (mkF m 290 #[.val (.ref ax), .val (.ref tx), .val (.int nn), .val (.int ((ff + (1 : Int32)) + (1 : Int32))), .val (.int ff), .val (.int (1 : Int32)), .val (.ref wb), .val (.int (2 : Int32)), .val (.int (tt (((ff + (1 : Int32)) + (1 : Int32))).toNatClampNeg)), .val (.int (own_a (tt (((ff + (1 : Int32)) + (1 : Int32))).toNatClampNeg)))] [(.ref ax)])) _
                refine XS.aload X222.here hx rfl (hb hby d6_290) rfl rfl ?_
                show Steps p.tables e below (T222.setTop (mkF m 292 #[.val (.ref ax), .val (.ref tx), .val (.int nn), .val (.int ((ff + (1 : Int32)) + (1 : Int32))), .val (.int ff), .val (.int (1 : Int32)), .val (.ref wb), .val (.int (2 : Int32)), .val (.int (tt (((ff + (1 : Int32)) + (1 : Int32))).toNatClampNeg)), .val (.int (own_a (tt (((ff + (1 : Int32)) + (1 : Int32))).toNatClampNeg)))] [(.ref wb), (.ref ax)])) _
                exact kq)
              have f225 := (f220.wr W222)
              have f226 := (((f129.other W150 (Or.inl haw)).other W173 (Or.inl haw)).other W222 (Or.inr (slot_ne (Or.inl (hw _ (List.mem_of_getElem? (i := 19) rfl))) (Or.inl (hw _ (List.mem_of_getElem? (i := 28) rfl))) (by decide) (t := (.array .byte)) (t' := .int) (by decide) (by decide))))
              obtain ⟨T227, h227, X227, e227, W227, st227⟩ := putF X222 hx hZ hown (host := "") (Or.inl (hw _ (List.mem_of_getElem? (i := 18) rfl))) Via.refl e222 f226 f225 (Or.inl (hw _ (List.mem_of_getElem? (i := 19) rfl))) (hw _ (List.mem_of_getElem? (i := 9) rfl)) (ty := (.array .byte)) (by decide) rfl rfl (g := (mkF m 292 #[.val (.ref ax), .val (.ref tx), .val (.int nn), .val (.int ((ff + (1 : Int32)) + (1 : Int32))), .val (.int ff), .val (.int (1 : Int32)), .val (.ref wb), .val (.int (2 : Int32)), .val (.int (tt (((ff + (1 : Int32)) + (1 : Int32))).toNatClampNeg)), .val (.int (own_a (tt (((ff + (1 : Int32)) + (1 : Int32))).toNatClampNeg)))] [(.ref wb), (.ref ax)])) rfl rfl (hb hby d6_292)
              have N227 := Fr.snoc X227 N222 gax
              have fw227 := f226.same W227
              have G228 : Go p e below A0 (T227.setTop (mkF m 295 #[.val (.ref ax), .val (.ref tx), .val (.int nn), .val (.int ((ff + (1 : Int32)) + (1 : Int32))), .val (.int ff), .val (.int (1 : Int32)), .val (.ref wb), .val (.int (2 : Int32)), .val (.int (tt (((ff + (1 : Int32)) + (1 : Int32))).toNatClampNeg)), .val (.int (own_a (tt (((ff + (1 : Int32)) + (1 : Int32))).toNatClampNeg)))] [])) := fun tq kq => G224 tq (st227 _ kq)
              have G229 : Go p e below A0 (T227.setTop (mkF m 298 #[.val (.ref ax), .val (.ref tx), .val (.int nn), .val (.int ((ff + (1 : Int32)) + (1 : Int32))), .val (.int ff), .val (.int (1 : Int32)), .val (.ref wb), .val (.int (2 : Int32)), .val (.int (tt (((ff + (1 : Int32)) + (1 : Int32))).toNatClampNeg)), .val (.int (own_a (tt (((ff + (1 : Int32)) + (1 : Int32))).toNatClampNeg)))] [(.int (2 : Int32)), (.ref ax)])) := fun tq kq => G228 tq (by
                refine XS.aloadN X227.here hx rfl (hb hby d6_295) rfl rfl ?_
                show Steps p.tables e below (T227.setTop (mkF m 296 #[.val (.ref ax), .val (.ref tx), .val (.int nn), .val (.int ((ff + (1 : Int32)) + (1 : Int32))), .val (.int ff), .val (.int (1 : Int32)), .val (.ref wb), .val (.int (2 : Int32)), .val (.int (tt (((ff + (1 : Int32)) + (1 : Int32))).toNatClampNeg)), .val (.int (own_a (tt (((ff + (1 : Int32)) + (1 : Int32))).toNatClampNeg)))] [(.ref ax)])) _
                refine XS.iload X227.here hx rfl (hb hby d6_296) rfl ?_
                show Steps p.tables e below (T227.setTop (mkF m 298 #[.val (.ref ax), .val (.ref tx), .val (.int nn), .val (.int ((ff + (1 : Int32)) + (1 : Int32))), .val (.int ff), .val (.int (1 : Int32)), .val (.ref wb), .val (.int (2 : Int32)), .val (.int (tt (((ff + (1 : Int32)) + (1 : Int32))).toNatClampNeg)), .val (.int (own_a (tt (((ff + (1 : Int32)) + (1 : Int32))).toNatClampNeg)))] [(.int (2 : Int32)), (.ref ax)])) _
                exact kq)
              have f230 := (f225.wr W227)
              have f231 := (((((F_length.other W126 (Or.inr (slot_ne (Or.inl (hw _ (List.mem_of_getElem? (i := 32) rfl))) (Or.inl (hw _ (List.mem_of_getElem? (i := 28) rfl))) (by decide) (t := .int) (t' := .int) (by decide) (by decide)))).other W150 (Or.inl haw)).other W173 (Or.inl haw)).other W222 (Or.inr (slot_ne (Or.inl (hw _ (List.mem_of_getElem? (i := 32) rfl))) (Or.inl (hw _ (List.mem_of_getElem? (i := 28) rfl))) (by decide) (t := .int) (t' := .int) (by decide) (by decide)))).other W227 (Or.inr (slot_ne (Or.inl (hw _ (List.mem_of_getElem? (i := 32) rfl))) (Or.inl (hw _ (List.mem_of_getElem? (i := 19) rfl))) (by decide) (t := .int) (t' := (.array .byte)) (by decide) (by decide))))
              obtain ⟨T232, h232, X232, e232, W232, st232⟩ := putF X227 hx hZ hown (host := "") (Or.inl (hw _ (List.mem_of_getElem? (i := 31) rfl))) Via.refl e227 f231 f230 (Or.inl (hw _ (List.mem_of_getElem? (i := 32) rfl))) (hw _ (List.mem_of_getElem? (i := 9) rfl)) (ty := .int) (by decide) rfl rfl (g := (mkF m 298 #[.val (.ref ax), .val (.ref tx), .val (.int nn), .val (.int ((ff + (1 : Int32)) + (1 : Int32))), .val (.int ff), .val (.int (1 : Int32)), .val (.ref wb), .val (.int (2 : Int32)), .val (.int (tt (((ff + (1 : Int32)) + (1 : Int32))).toNatClampNeg)), .val (.int (own_a (tt (((ff + (1 : Int32)) + (1 : Int32))).toNatClampNeg)))] [(.int (2 : Int32)), (.ref ax)])) rfl rfl (hb hby d6_298)
              have N232 := Fr.snoc X232 N227 gax
              have fw232 := f231.same W232
              have G233 : Go p e below A0 (T232.setTop (mkF m 301 #[.val (.ref ax), .val (.ref tx), .val (.int nn), .val (.int ((ff + (1 : Int32)) + (1 : Int32))), .val (.int ff), .val (.int (1 : Int32)), .val (.ref wb), .val (.int (2 : Int32)), .val (.int (tt (((ff + (1 : Int32)) + (1 : Int32))).toNatClampNeg)), .val (.int (own_a (tt (((ff + (1 : Int32)) + (1 : Int32))).toNatClampNeg)))] [])) := fun tq kq => G229 tq (st232 _ kq)
              have G234 : Go p e below A0 (T232.setTop (mkF m 302 #[.val (.ref ax), .val (.ref tx), .val (.int nn), .val (.int ((ff + (1 : Int32)) + (1 : Int32))), .val (.int ff), .val (.int (1 : Int32)), .val (.ref wb), .val (.int (2 : Int32)), .val (.int (tt (((ff + (1 : Int32)) + (1 : Int32))).toNatClampNeg)), .val (.int (own_a (tt (((ff + (1 : Int32)) + (1 : Int32))).toNatClampNeg)))] [(.int (1 : Int32))])) := fun tq kq => G233 tq (by
                refine XS.iconst X232.here hx rfl (hb hby d6_301) ?_
                show Steps p.tables e below (T232.setTop (mkF m 302 #[.val (.ref ax), .val (.ref tx), .val (.int nn), .val (.int ((ff + (1 : Int32)) + (1 : Int32))), .val (.int ff), .val (.int (1 : Int32)), .val (.ref wb), .val (.int (2 : Int32)), .val (.int (tt (((ff + (1 : Int32)) + (1 : Int32))).toNatClampNeg)), .val (.int (own_a (tt (((ff + (1 : Int32)) + (1 : Int32))).toNatClampNeg)))] [(.int (1 : Int32))])) _
                exact kq)
              have f235 := ((((((F_text.other W126 (Or.inr (slot_ne (Or.inl (hw _ (List.mem_of_getElem? (i := 26) rfl))) (Or.inl (hw _ (List.mem_of_getElem? (i := 28) rfl))) (by decide) (t := (.array .char)) (t' := .int) (by decide) (by decide)))).other W150 (Or.inl haw)).other W173 (Or.inl haw)).other W222 (Or.inr (slot_ne (Or.inl (hw _ (List.mem_of_getElem? (i := 26) rfl))) (Or.inl (hw _ (List.mem_of_getElem? (i := 28) rfl))) (by decide) (t := (.array .char)) (t' := .int) (by decide) (by decide)))).other W227 (Or.inr (slot_ne (Or.inl (hw _ (List.mem_of_getElem? (i := 26) rfl))) (Or.inl (hw _ (List.mem_of_getElem? (i := 19) rfl))) (by decide) (t := (.array .char)) (t' := (.array .byte)) (by decide) (by decide)))).other W232 (Or.inr (slot_ne (Or.inl (hw _ (List.mem_of_getElem? (i := 26) rfl))) (Or.inl (hw _ (List.mem_of_getElem? (i := 32) rfl))) (by decide) (t := (.array .char)) (t' := .int) (by decide) (by decide))))
              have f236 := ((fw222.other W227 (Or.inr (slot_ne (Or.inl (hw _ (List.mem_of_getElem? (i := 28) rfl))) (Or.inl (hw _ (List.mem_of_getElem? (i := 19) rfl))) (by decide) (t := .int) (t' := (.array .byte)) (by decide) (by decide)))).other W232 (Or.inr (slot_ne (Or.inl (hw _ (List.mem_of_getElem? (i := 28) rfl))) (Or.inl (hw _ (List.mem_of_getElem? (i := 32) rfl))) (by decide) (t := .int) (t' := .int) (by decide) (by decide))))
              have f237 := ((((((F_to.other W126 (Or.inr (slot_ne (Or.inl (hw _ (List.mem_of_getElem? (i := 30) rfl))) (Or.inl (hw _ (List.mem_of_getElem? (i := 28) rfl))) (by decide) (t := .int) (t' := .int) (by decide) (by decide)))).other W150 (Or.inl haw)).other W173 (Or.inl haw)).other W222 (Or.inr (slot_ne (Or.inl (hw _ (List.mem_of_getElem? (i := 30) rfl))) (Or.inl (hw _ (List.mem_of_getElem? (i := 28) rfl))) (by decide) (t := .int) (t' := .int) (by decide) (by decide)))).other W227 (Or.inr (slot_ne (Or.inl (hw _ (List.mem_of_getElem? (i := 30) rfl))) (Or.inl (hw _ (List.mem_of_getElem? (i := 19) rfl))) (by decide) (t := .int) (t' := (.array .byte)) (by decide) (by decide)))).other W232 (Or.inr (slot_ne (Or.inl (hw _ (List.mem_of_getElem? (i := 30) rfl))) (Or.inl (hw _ (List.mem_of_getElem? (i := 32) rfl))) (by decide) (t := .int) (t' := .int) (by decide) (by decide))))
              have f238 := (fw227.other W232 (Or.inr (slot_ne (Or.inl (hw _ (List.mem_of_getElem? (i := 19) rfl))) (Or.inl (hw _ (List.mem_of_getElem? (i := 32) rfl))) (by decide) (t := (.array .byte)) (t' := .int) (by decide) (by decide))))
              have f239 := (((V173.other W222 (Ne.symm haw)).other W227 (Ne.symm haw)).other W232 (Ne.symm haw))
              have e1 : sv = ff := by rw [hS]; simp only [own_b, own_st, hc112, hc124, hc153, hc167, hc176, mi181, hc190, not_true_eq_false, not_false_eq_true, if_true, if_false, or_true, true_or, or_false, false_or, and_true, true_and, and_false, false_and, and_self, or_self]
              have e2 : ev = ((ff + (1 : Int32)) + (1 : Int32)) := by rw [hE, e1]; simp only [own_b, own_en, hc112, hc124, hc153, hc167, hc176, mi181, hc190, not_true_eq_false, not_false_eq_true, if_true, if_false, or_true, true_or, or_false, false_or, and_true, true_and, and_false, false_and, and_self, or_self]
              obtain ⟨fs, hr, hrun, hended, hW, hsame⟩ := X232.leave (v := some (.int (nar .boolean (1 : Int32)))) (fun h => by rw [Bd.returns] at h; cases h)
              refine ⟨_, _, (by rw [← hA0]; exact G234 _ (retN X232 hx (t := .boolean) Bd.returns (by simp) (hb hby d6_302) hr)), hrun, hended, _, _, rfl, ?_, ⟨_, rfl⟩, hW, hsame.mono (by decide) (by decide)⟩
              show Qnx Z ax tx wb tt nn sv ev kw h0 n0 _ T232.heap _
              rw [e232]
              rw [e1, e2]
              exact ⟨(own_up (own_up gw 0 (own_a (tt (ff).toNatClampNeg))) 1 (own_a (tt ((ff + (1 : Int32))).toNatClampNeg))), (by rw [own_bt (own_ltne hc112)]; rfl), N232, (((((((Keep.refl h0 [ax, wb]).wr W126 (Or.inl (List.mem_of_getElem? (i := 0) rfl))).wr W150 (Or.inl (List.mem_of_getElem? (i := 1) rfl))).wr W173 (Or.inl (List.mem_of_getElem? (i := 1) rfl))).wr W222 (Or.inl (List.mem_of_getElem? (i := 0) rfl))).wr W227 (Or.inl (List.mem_of_getElem? (i := 0) rfl))).wr W232 (Or.inl (List.mem_of_getElem? (i := 0) rfl))), f235, f236, f237, (by rw [← own_d2]; exact fw232), f238, f239, own_ct2 hc124 hc167⟩
          · have G240 : Go p e below A0 (T173.setTop (mkF m 286 #[.val (.ref ax), .val (.ref tx), .val (.int nn), .val (.int ((ff + (1 : Int32)) + (1 : Int32))), .val (.int ff), .val (.int (1 : Int32)), .val (.ref wb), .val (.int (2 : Int32)), .val (.int (tt ((ff + (1 : Int32))).toNatClampNeg)), .val (.int (own_a (tt ((ff + (1 : Int32))).toNatClampNeg)))] [(.int ((ff + (1 : Int32)) + (1 : Int32))), (.ref ax)])) := fun tq kq => G175 tq (by
              refine XS.icmpYes X173.here hx rfl (pc0 := 116) (pc' := 216) rfl (hb hby d6_116) rfl (flt hc176).2.1 (by decide) (by decide) ?_
              show Steps p.tables e below (T173.setTop (mkF m 216 #[.val (.ref ax), .val (.ref tx), .val (.int nn), .val (.int ((ff + (1 : Int32)) + (1 : Int32))), .val (.int ff), .val (.int (1 : Int32)), .val (.ref wb), .val (.int (2 : Int32)), .val (.int (tt ((ff + (1 : Int32))).toNatClampNeg)), .val (.int (own_a (tt ((ff + (1 : Int32))).toNatClampNeg)))] [])) _
              refine XS.iload X173.here hx rfl (hb hby d6_216) rfl ?_
              show Steps p.tables e below (T173.setTop (mkF m 218 #[.val (.ref ax), .val (.ref tx), .val (.int nn), .val (.int ((ff + (1 : Int32)) + (1 : Int32))), .val (.int ff), .val (.int (1 : Int32)), .val (.ref wb), .val (.int (2 : Int32)), .val (.int (tt ((ff + (1 : Int32))).toNatClampNeg)), .val (.int (own_a (tt ((ff + (1 : Int32))).toNatClampNeg)))] [(.int (1 : Int32))])) _
              refine XS.ifYes X173.here hx rfl (pc0 := 218) (pc' := 284) rfl (hb hby d6_218) rfl (by decide) (by decide) (by decide) ?_
              show Steps p.tables e below (T173.setTop (mkF m 284 #[.val (.ref ax), .val (.ref tx), .val (.int nn), .val (.int ((ff + (1 : Int32)) + (1 : Int32))), .val (.int ff), .val (.int (1 : Int32)), .val (.ref wb), .val (.int (2 : Int32)), .val (.int (tt ((ff + (1 : Int32))).toNatClampNeg)), .val (.int (own_a (tt ((ff + (1 : Int32))).toNatClampNeg)))] [])) _
              refine XS.aloadN X173.here hx rfl (hb hby d6_284) rfl rfl ?_
              show Steps p.tables e below (T173.setTop (mkF m 285 #[.val (.ref ax), .val (.ref tx), .val (.int nn), .val (.int ((ff + (1 : Int32)) + (1 : Int32))), .val (.int ff), .val (.int (1 : Int32)), .val (.ref wb), .val (.int (2 : Int32)), .val (.int (tt ((ff + (1 : Int32))).toNatClampNeg)), .val (.int (own_a (tt ((ff + (1 : Int32))).toNatClampNeg)))] [(.ref ax)])) _
              refine XS.iloadN X173.here hx rfl (hb hby d6_285) rfl ?_
              show Steps p.tables e below (T173.setTop (mkF m 286 #[.val (.ref ax), .val (.ref tx), .val (.int nn), .val (.int ((ff + (1 : Int32)) + (1 : Int32))), .val (.int ff), .val (.int (1 : Int32)), .val (.ref wb), .val (.int (2 : Int32)), .val (.int (tt ((ff + (1 : Int32))).toNatClampNeg)), .val (.int (own_a (tt ((ff + (1 : Int32))).toNatClampNeg)))] [(.int ((ff + (1 : Int32)) + (1 : Int32))), (.ref ax)])) _
              exact kq)
            have f241 := (((E.wr W126).wr W150).wr W173)
            have f242 := ((fw126.other W150 (Or.inl haw)).other W173 (Or.inl haw))
            obtain ⟨T243, h243, X243, e243, W243, st243⟩ := putF X173 hx hZ hown (host := "") (Or.inl (hw _ (List.mem_of_getElem? (i := 27) rfl))) Via.refl e173 f242 f241 (Or.inl (hw _ (List.mem_of_getElem? (i := 28) rfl))) (hw _ (List.mem_of_getElem? (i := 9) rfl)) (ty := .int) (by decide) rfl rfl (g := (mkF m 286 #[.val (.ref ax), .val (.ref tx), .val (.int nn), .val (.int ((ff + (1 : Int32)) + (1 : Int32))), .val (.int ff), .val (.int (1 : Int32)), .val (.ref wb), .val (.int (2 : Int32)), .val (.int (tt ((ff + (1 : Int32))).toNatClampNeg)), .val (.int (own_a (tt ((ff + (1 : Int32))).toNatClampNeg)))] [(.int ((ff + (1 : Int32)) + (1 : Int32))), (.ref ax)])) rfl rfl (hb hby d6_286)
            have N243 := Fr.snoc X243 N173 gax
            have fw243 := f242.same W243
            have G244 : Go p e below A0 (T243.setTop (mkF m 289 #[.val (.ref ax), .val (.ref tx), .val (.int nn), .val (.int ((ff + (1 : Int32)) + (1 : Int32))), .val (.int ff), .val (.int (1 : Int32)), .val (.ref wb), .val (.int (2 : Int32)), .val (.int (tt ((ff + (1 : Int32))).toNatClampNeg)), .val (.int (own_a (tt ((ff + (1 : Int32))).toNatClampNeg)))] [])) := fun tq kq => G240 tq (st243 _ kq)
            have G245 : Go p e below A0 (T243.setTop (mkF m 292 #[.val (.ref ax), .val (.ref tx), .val (.int nn), .val (.int ((ff + (1 : Int32)) + (1 : Int32))), .val (.int ff), .val (.int (1 : Int32)), .val (.ref wb), .val (.int (2 : Int32)), .val (.int (tt ((ff + (1 : Int32))).toNatClampNeg)), .val (.int (own_a (tt ((ff + (1 : Int32))).toNatClampNeg)))] [(.ref wb), (.ref ax)])) := fun tq kq => G244 tq (by
              refine XS.aloadN X243.here hx rfl (hb hby d6_289) rfl rfl ?_
              show Steps p.tables e below (T243.setTop (mkF m 290 #[.val (.ref ax), .val (.ref tx), .val (.int nn), .val (.int ((ff + (1 : Int32)) + (1 : Int32))), .val (.int ff), .val (.int (1 : Int32)), .val (.ref wb), .val (.int (2 : Int32)), .val (.int (tt ((ff + (1 : Int32))).toNatClampNeg)), .val (.int (own_a (tt ((ff + (1 : Int32))).toNatClampNeg)))] [(.ref ax)])) _
              refine XS.aload X243.here hx rfl (hb hby d6_290) rfl rfl ?_
              show Steps p.tables e below (T243.setTop (mkF m 292 #[.val (.ref ax), .val (.ref tx), .val (.int nn), .val (.int ((ff + (1 : Int32)) + (1 : Int32))), .val (.int ff), .val (.int (1 : Int32)), .val (.ref wb), .val (.int (2 : Int32)), .val (.int (tt ((ff + (1 : Int32))).toNatClampNeg)), .val (.int (own_a (tt ((ff + (1 : Int32))).toNatClampNeg)))] [(.ref wb), (.ref ax)])) _
              exact kq)
            have f246 := (f241.wr W243)
            have f247 := (((f129.other W150 (Or.inl haw)).other W173 (Or.inl haw)).other W243 (Or.inr (slot_ne (Or.inl (hw _ (List.mem_of_getElem? (i := 19) rfl))) (Or.inl (hw _ (List.mem_of_getElem? (i := 28) rfl))) (by decide) (t := (.array .byte)) (t' := .int) (by decide) (by decide))))
            obtain ⟨T248, h248, X248, e248, W248, st248⟩ := putF X243 hx hZ hown (host := "") (Or.inl (hw _ (List.mem_of_getElem? (i := 18) rfl))) Via.refl e243 f247 f246 (Or.inl (hw _ (List.mem_of_getElem? (i := 19) rfl))) (hw _ (List.mem_of_getElem? (i := 9) rfl)) (ty := (.array .byte)) (by decide) rfl rfl (g := (mkF m 292 #[.val (.ref ax), .val (.ref tx), .val (.int nn), .val (.int ((ff + (1 : Int32)) + (1 : Int32))), .val (.int ff), .val (.int (1 : Int32)), .val (.ref wb), .val (.int (2 : Int32)), .val (.int (tt ((ff + (1 : Int32))).toNatClampNeg)), .val (.int (own_a (tt ((ff + (1 : Int32))).toNatClampNeg)))] [(.ref wb), (.ref ax)])) rfl rfl (hb hby d6_292)
            have N248 := Fr.snoc X248 N243 gax
            have fw248 := f247.same W248
            have G249 : Go p e below A0 (T248.setTop (mkF m 295 #[.val (.ref ax), .val (.ref tx), .val (.int nn), .val (.int ((ff + (1 : Int32)) + (1 : Int32))), .val (.int ff), .val (.int (1 : Int32)), .val (.ref wb), .val (.int (2 : Int32)), .val (.int (tt ((ff + (1 : Int32))).toNatClampNeg)), .val (.int (own_a (tt ((ff + (1 : Int32))).toNatClampNeg)))] [])) := fun tq kq => G245 tq (st248 _ kq)
            have G250 : Go p e below A0 (T248.setTop (mkF m 298 #[.val (.ref ax), .val (.ref tx), .val (.int nn), .val (.int ((ff + (1 : Int32)) + (1 : Int32))), .val (.int ff), .val (.int (1 : Int32)), .val (.ref wb), .val (.int (2 : Int32)), .val (.int (tt ((ff + (1 : Int32))).toNatClampNeg)), .val (.int (own_a (tt ((ff + (1 : Int32))).toNatClampNeg)))] [(.int (2 : Int32)), (.ref ax)])) := fun tq kq => G249 tq (by
              refine XS.aloadN X248.here hx rfl (hb hby d6_295) rfl rfl ?_
              show Steps p.tables e below (T248.setTop (mkF m 296 #[.val (.ref ax), .val (.ref tx), .val (.int nn), .val (.int ((ff + (1 : Int32)) + (1 : Int32))), .val (.int ff), .val (.int (1 : Int32)), .val (.ref wb), .val (.int (2 : Int32)), .val (.int (tt ((ff + (1 : Int32))).toNatClampNeg)), .val (.int (own_a (tt ((ff + (1 : Int32))).toNatClampNeg)))] [(.ref ax)])) _
              refine XS.iload X248.here hx rfl (hb hby d6_296) rfl ?_
              show Steps p.tables e below (T248.setTop (mkF m 298 #[.val (.ref ax), .val (.ref tx), .val (.int nn), .val (.int ((ff + (1 : Int32)) + (1 : Int32))), .val (.int ff), .val (.int (1 : Int32)), .val (.ref wb), .val (.int (2 : Int32)), .val (.int (tt ((ff + (1 : Int32))).toNatClampNeg)), .val (.int (own_a (tt ((ff + (1 : Int32))).toNatClampNeg)))] [(.int (2 : Int32)), (.ref ax)])) _
              exact kq)
            have f251 := (f246.wr W248)
            have f252 := (((((F_length.other W126 (Or.inr (slot_ne (Or.inl (hw _ (List.mem_of_getElem? (i := 32) rfl))) (Or.inl (hw _ (List.mem_of_getElem? (i := 28) rfl))) (by decide) (t := .int) (t' := .int) (by decide) (by decide)))).other W150 (Or.inl haw)).other W173 (Or.inl haw)).other W243 (Or.inr (slot_ne (Or.inl (hw _ (List.mem_of_getElem? (i := 32) rfl))) (Or.inl (hw _ (List.mem_of_getElem? (i := 28) rfl))) (by decide) (t := .int) (t' := .int) (by decide) (by decide)))).other W248 (Or.inr (slot_ne (Or.inl (hw _ (List.mem_of_getElem? (i := 32) rfl))) (Or.inl (hw _ (List.mem_of_getElem? (i := 19) rfl))) (by decide) (t := .int) (t' := (.array .byte)) (by decide) (by decide))))
            obtain ⟨T253, h253, X253, e253, W253, st253⟩ := putF X248 hx hZ hown (host := "") (Or.inl (hw _ (List.mem_of_getElem? (i := 31) rfl))) Via.refl e248 f252 f251 (Or.inl (hw _ (List.mem_of_getElem? (i := 32) rfl))) (hw _ (List.mem_of_getElem? (i := 9) rfl)) (ty := .int) (by decide) rfl rfl (g := (mkF m 298 #[.val (.ref ax), .val (.ref tx), .val (.int nn), .val (.int ((ff + (1 : Int32)) + (1 : Int32))), .val (.int ff), .val (.int (1 : Int32)), .val (.ref wb), .val (.int (2 : Int32)), .val (.int (tt ((ff + (1 : Int32))).toNatClampNeg)), .val (.int (own_a (tt ((ff + (1 : Int32))).toNatClampNeg)))] [(.int (2 : Int32)), (.ref ax)])) rfl rfl (hb hby d6_298)
            have N253 := Fr.snoc X253 N248 gax
            have fw253 := f252.same W253
            have G254 : Go p e below A0 (T253.setTop (mkF m 301 #[.val (.ref ax), .val (.ref tx), .val (.int nn), .val (.int ((ff + (1 : Int32)) + (1 : Int32))), .val (.int ff), .val (.int (1 : Int32)), .val (.ref wb), .val (.int (2 : Int32)), .val (.int (tt ((ff + (1 : Int32))).toNatClampNeg)), .val (.int (own_a (tt ((ff + (1 : Int32))).toNatClampNeg)))] [])) := fun tq kq => G250 tq (st253 _ kq)
            have G255 : Go p e below A0 (T253.setTop (mkF m 302 #[.val (.ref ax), .val (.ref tx), .val (.int nn), .val (.int ((ff + (1 : Int32)) + (1 : Int32))), .val (.int ff), .val (.int (1 : Int32)), .val (.ref wb), .val (.int (2 : Int32)), .val (.int (tt ((ff + (1 : Int32))).toNatClampNeg)), .val (.int (own_a (tt ((ff + (1 : Int32))).toNatClampNeg)))] [(.int (1 : Int32))])) := fun tq kq => G254 tq (by
              refine XS.iconst X253.here hx rfl (hb hby d6_301) ?_
              show Steps p.tables e below (T253.setTop (mkF m 302 #[.val (.ref ax), .val (.ref tx), .val (.int nn), .val (.int ((ff + (1 : Int32)) + (1 : Int32))), .val (.int ff), .val (.int (1 : Int32)), .val (.ref wb), .val (.int (2 : Int32)), .val (.int (tt ((ff + (1 : Int32))).toNatClampNeg)), .val (.int (own_a (tt ((ff + (1 : Int32))).toNatClampNeg)))] [(.int (1 : Int32))])) _
              exact kq)
            have f256 := ((((((F_text.other W126 (Or.inr (slot_ne (Or.inl (hw _ (List.mem_of_getElem? (i := 26) rfl))) (Or.inl (hw _ (List.mem_of_getElem? (i := 28) rfl))) (by decide) (t := (.array .char)) (t' := .int) (by decide) (by decide)))).other W150 (Or.inl haw)).other W173 (Or.inl haw)).other W243 (Or.inr (slot_ne (Or.inl (hw _ (List.mem_of_getElem? (i := 26) rfl))) (Or.inl (hw _ (List.mem_of_getElem? (i := 28) rfl))) (by decide) (t := (.array .char)) (t' := .int) (by decide) (by decide)))).other W248 (Or.inr (slot_ne (Or.inl (hw _ (List.mem_of_getElem? (i := 26) rfl))) (Or.inl (hw _ (List.mem_of_getElem? (i := 19) rfl))) (by decide) (t := (.array .char)) (t' := (.array .byte)) (by decide) (by decide)))).other W253 (Or.inr (slot_ne (Or.inl (hw _ (List.mem_of_getElem? (i := 26) rfl))) (Or.inl (hw _ (List.mem_of_getElem? (i := 32) rfl))) (by decide) (t := (.array .char)) (t' := .int) (by decide) (by decide))))
            have f257 := ((fw243.other W248 (Or.inr (slot_ne (Or.inl (hw _ (List.mem_of_getElem? (i := 28) rfl))) (Or.inl (hw _ (List.mem_of_getElem? (i := 19) rfl))) (by decide) (t := .int) (t' := (.array .byte)) (by decide) (by decide)))).other W253 (Or.inr (slot_ne (Or.inl (hw _ (List.mem_of_getElem? (i := 28) rfl))) (Or.inl (hw _ (List.mem_of_getElem? (i := 32) rfl))) (by decide) (t := .int) (t' := .int) (by decide) (by decide))))
            have f258 := ((((((F_to.other W126 (Or.inr (slot_ne (Or.inl (hw _ (List.mem_of_getElem? (i := 30) rfl))) (Or.inl (hw _ (List.mem_of_getElem? (i := 28) rfl))) (by decide) (t := .int) (t' := .int) (by decide) (by decide)))).other W150 (Or.inl haw)).other W173 (Or.inl haw)).other W243 (Or.inr (slot_ne (Or.inl (hw _ (List.mem_of_getElem? (i := 30) rfl))) (Or.inl (hw _ (List.mem_of_getElem? (i := 28) rfl))) (by decide) (t := .int) (t' := .int) (by decide) (by decide)))).other W248 (Or.inr (slot_ne (Or.inl (hw _ (List.mem_of_getElem? (i := 30) rfl))) (Or.inl (hw _ (List.mem_of_getElem? (i := 19) rfl))) (by decide) (t := .int) (t' := (.array .byte)) (by decide) (by decide)))).other W253 (Or.inr (slot_ne (Or.inl (hw _ (List.mem_of_getElem? (i := 30) rfl))) (Or.inl (hw _ (List.mem_of_getElem? (i := 32) rfl))) (by decide) (t := .int) (t' := .int) (by decide) (by decide))))
            have f259 := (fw248.other W253 (Or.inr (slot_ne (Or.inl (hw _ (List.mem_of_getElem? (i := 19) rfl))) (Or.inl (hw _ (List.mem_of_getElem? (i := 32) rfl))) (by decide) (t := (.array .byte)) (t' := .int) (by decide) (by decide))))
            have f260 := (((V173.other W243 (Ne.symm haw)).other W248 (Ne.symm haw)).other W253 (Ne.symm haw))
            have e1 : sv = ff := by rw [hS]; simp only [own_b, own_st, hc112, hc124, hc153, hc167, hc176, not_true_eq_false, not_false_eq_true, if_true, if_false, or_true, true_or, or_false, false_or, and_true, true_and, and_false, false_and, and_self, or_self]
            have e2 : ev = ((ff + (1 : Int32)) + (1 : Int32)) := by rw [hE, e1]; simp only [own_b, own_en, hc112, hc124, hc153, hc167, hc176, not_true_eq_false, not_false_eq_true, if_true, if_false, or_true, true_or, or_false, false_or, and_true, true_and, and_false, false_and, and_self, or_self]
            obtain ⟨fs, hr, hrun, hended, hW, hsame⟩ := X253.leave (v := some (.int (nar .boolean (1 : Int32)))) (fun h => by rw [Bd.returns] at h; cases h)
            refine ⟨_, _, (by rw [← hA0]; exact G255 _ (retN X253 hx (t := .boolean) Bd.returns (by simp) (hb hby d6_302) hr)), hrun, hended, _, _, rfl, ?_, ⟨_, rfl⟩, hW, hsame.mono (by decide) (by decide)⟩
            show Qnx Z ax tx wb tt nn sv ev kw h0 n0 _ T253.heap _
            rw [e253]
            rw [e1, e2]
            exact ⟨(own_up (own_up gw 0 (own_a (tt (ff).toNatClampNeg))) 1 (own_a (tt ((ff + (1 : Int32))).toNatClampNeg))), (by rw [own_bt (own_ltne hc112)]; rfl), N253, (((((((Keep.refl h0 [ax, wb]).wr W126 (Or.inl (List.mem_of_getElem? (i := 0) rfl))).wr W150 (Or.inl (List.mem_of_getElem? (i := 1) rfl))).wr W173 (Or.inl (List.mem_of_getElem? (i := 1) rfl))).wr W243 (Or.inl (List.mem_of_getElem? (i := 0) rfl))).wr W248 (Or.inl (List.mem_of_getElem? (i := 0) rfl))).wr W253 (Or.inl (List.mem_of_getElem? (i := 0) rfl))), f256, f257, f258, (by rw [← own_d2]; exact fw253), f259, f260, own_ct2 hc124 hc167⟩
        · have G261 : Go p e below A0 (T160.setTop (mkF m 286 #[.val (.ref ax), .val (.ref tx), .val (.int nn), .val (.int (ff + (1 : Int32))), .val (.int ff), .val (.int (1 : Int32)), .val (.ref wb), .val (.int (1 : Int32)), .val (.int (tt ((ff + (1 : Int32))).toNatClampNeg)), .val (.int (own_a (tt ((ff + (1 : Int32))).toNatClampNeg)))] [(.int (ff + (1 : Int32))), (.ref ax)])) := fun tq kq => G166 tq (by
            refine XS.ifNo X160.here hx rfl (hb hby d6_142) rfl ((if0 _ _).trans (teq (own_a0 hc167)).2) ?_
            show Steps p.tables e below (T160.setTop (mkF m 145 #[.val (.ref ax), .val (.ref tx), .val (.int nn), .val (.int (ff + (1 : Int32))), .val (.int ff), .val (.int (1 : Int32)), .val (.ref wb), .val (.int (1 : Int32)), .val (.int (tt ((ff + (1 : Int32))).toNatClampNeg)), .val (.int (own_a (tt ((ff + (1 : Int32))).toNatClampNeg)))] [])) _
            refine XS.goto X160.here hx rfl (pc0 := 145) (pc' := 216) rfl (hb hby d6_145) (by decide) (by decide) ?_
            show Steps p.tables e below (T160.setTop (mkF m 216 #[.val (.ref ax), .val (.ref tx), .val (.int nn), .val (.int (ff + (1 : Int32))), .val (.int ff), .val (.int (1 : Int32)), .val (.ref wb), .val (.int (1 : Int32)), .val (.int (tt ((ff + (1 : Int32))).toNatClampNeg)), .val (.int (own_a (tt ((ff + (1 : Int32))).toNatClampNeg)))] [])) _
            refine XS.iload X160.here hx rfl (hb hby d6_216) rfl ?_
            show Steps p.tables e below (T160.setTop (mkF m 218 #[.val (.ref ax), .val (.ref tx), .val (.int nn), .val (.int (ff + (1 : Int32))), .val (.int ff), .val (.int (1 : Int32)), .val (.ref wb), .val (.int (1 : Int32)), .val (.int (tt ((ff + (1 : Int32))).toNatClampNeg)), .val (.int (own_a (tt ((ff + (1 : Int32))).toNatClampNeg)))] [(.int (1 : Int32))])) _
            refine XS.ifYes X160.here hx rfl (pc0 := 218) (pc' := 284) rfl (hb hby d6_218) rfl (by decide) (by decide) (by decide) ?_
            show Steps p.tables e below (T160.setTop (mkF m 284 #[.val (.ref ax), .val (.ref tx), .val (.int nn), .val (.int (ff + (1 : Int32))), .val (.int ff), .val (.int (1 : Int32)), .val (.ref wb), .val (.int (1 : Int32)), .val (.int (tt ((ff + (1 : Int32))).toNatClampNeg)), .val (.int (own_a (tt ((ff + (1 : Int32))).toNatClampNeg)))] [])) _
            refine XS.aloadN X160.here hx rfl (hb hby d6_284) rfl rfl ?_
            show Steps p.tables e below (T160.setTop (mkF m 285 #[.val (.ref ax), .val (.ref tx), .val (.int nn), .val (.int (ff + (1 : Int32))), .val (.int ff), .val (.int (1 : Int32)), .val (.ref wb), .val (.int (1 : Int32)), .val (.int (tt ((ff + (1 : Int32))).toNatClampNeg)), .val (.int (own_a (tt ((ff + (1 : Int32))).toNatClampNeg)))] [(.ref ax)])) _
            refine XS.iloadN X160.here hx rfl (hb hby d6_285) rfl ?_
            show Steps p.tables e below (T160.setTop (mkF m 286 #[.val (.ref ax), .val (.ref tx), .val (.int nn), .val (.int (ff + (1 : Int32))), .val (.int ff), .val (.int (1 : Int32)), .val (.ref wb), .val (.int (1 : Int32)), .val (.int (tt ((ff + (1 : Int32))).toNatClampNeg)), .val (.int (own_a (tt ((ff + (1 : Int32))).toNatClampNeg)))] [(.int (ff + (1 : Int32))), (.ref ax)])) _
            exact kq)
          have f262 := ((E.wr W126).wr W150)
          have f263 := (fw126.other W150 (Or.inl haw))
          obtain ⟨T264, h264, X264, e264, W264, st264⟩ := putF X160 hx hZ hown (host := "") (Or.inl (hw _ (List.mem_of_getElem? (i := 27) rfl))) Via.refl e160 f263 f262 (Or.inl (hw _ (List.mem_of_getElem? (i := 28) rfl))) (hw _ (List.mem_of_getElem? (i := 9) rfl)) (ty := .int) (by decide) rfl rfl (g := (mkF m 286 #[.val (.ref ax), .val (.ref tx), .val (.int nn), .val (.int (ff + (1 : Int32))), .val (.int ff), .val (.int (1 : Int32)), .val (.ref wb), .val (.int (1 : Int32)), .val (.int (tt ((ff + (1 : Int32))).toNatClampNeg)), .val (.int (own_a (tt ((ff + (1 : Int32))).toNatClampNeg)))] [(.int (ff + (1 : Int32))), (.ref ax)])) rfl rfl (hb hby d6_286)
          have N264 := Fr.snoc X264 N150 gax
          have fw264 := f263.same W264
          have G265 : Go p e below A0 (T264.setTop (mkF m 289 #[.val (.ref ax), .val (.ref tx), .val (.int nn), .val (.int (ff + (1 : Int32))), .val (.int ff), .val (.int (1 : Int32)), .val (.ref wb), .val (.int (1 : Int32)), .val (.int (tt ((ff + (1 : Int32))).toNatClampNeg)), .val (.int (own_a (tt ((ff + (1 : Int32))).toNatClampNeg)))] [])) := fun tq kq => G261 tq (st264 _ kq)
          have G266 : Go p e below A0 (T264.setTop (mkF m 292 #[.val (.ref ax), .val (.ref tx), .val (.int nn), .val (.int (ff + (1 : Int32))), .val (.int ff), .val (.int (1 : Int32)), .val (.ref wb), .val (.int (1 : Int32)), .val (.int (tt ((ff + (1 : Int32))).toNatClampNeg)), .val (.int (own_a (tt ((ff + (1 : Int32))).toNatClampNeg)))] [(.ref wb), (.ref ax)])) := fun tq kq => G265 tq (by
            refine XS.aloadN X264.here hx rfl (hb hby d6_289) rfl rfl ?_
            show Steps p.tables e below (T264.setTop (mkF m 290 #[.val (.ref ax), .val (.ref tx), .val (.int nn), .val (.int (ff + (1 : Int32))), .val (.int ff), .val (.int (1 : Int32)), .val (.ref wb), .val (.int (1 : Int32)), .val (.int (tt ((ff + (1 : Int32))).toNatClampNeg)), .val (.int (own_a (tt ((ff + (1 : Int32))).toNatClampNeg)))] [(.ref ax)])) _
            refine XS.aload X264.here hx rfl (hb hby d6_290) rfl rfl ?_
            show Steps p.tables e below (T264.setTop (mkF m 292 #[.val (.ref ax), .val (.ref tx), .val (.int nn), .val (.int (ff + (1 : Int32))), .val (.int ff), .val (.int (1 : Int32)), .val (.ref wb), .val (.int (1 : Int32)), .val (.int (tt ((ff + (1 : Int32))).toNatClampNeg)), .val (.int (own_a (tt ((ff + (1 : Int32))).toNatClampNeg)))] [(.ref wb), (.ref ax)])) _
            exact kq)
          have f267 := (f262.wr W264)
          have f268 := ((f129.other W150 (Or.inl haw)).other W264 (Or.inr (slot_ne (Or.inl (hw _ (List.mem_of_getElem? (i := 19) rfl))) (Or.inl (hw _ (List.mem_of_getElem? (i := 28) rfl))) (by decide) (t := (.array .byte)) (t' := .int) (by decide) (by decide))))
          obtain ⟨T269, h269, X269, e269, W269, st269⟩ := putF X264 hx hZ hown (host := "") (Or.inl (hw _ (List.mem_of_getElem? (i := 18) rfl))) Via.refl e264 f268 f267 (Or.inl (hw _ (List.mem_of_getElem? (i := 19) rfl))) (hw _ (List.mem_of_getElem? (i := 9) rfl)) (ty := (.array .byte)) (by decide) rfl rfl (g := (mkF m 292 #[.val (.ref ax), .val (.ref tx), .val (.int nn), .val (.int (ff + (1 : Int32))), .val (.int ff), .val (.int (1 : Int32)), .val (.ref wb), .val (.int (1 : Int32)), .val (.int (tt ((ff + (1 : Int32))).toNatClampNeg)), .val (.int (own_a (tt ((ff + (1 : Int32))).toNatClampNeg)))] [(.ref wb), (.ref ax)])) rfl rfl (hb hby d6_292)
          have N269 := Fr.snoc X269 N264 gax
          have fw269 := f268.same W269
          have G270 : Go p e below A0 (T269.setTop (mkF m 295 #[.val (.ref ax), .val (.ref tx), .val (.int nn), .val (.int (ff + (1 : Int32))), .val (.int ff), .val (.int (1 : Int32)), .val (.ref wb), .val (.int (1 : Int32)), .val (.int (tt ((ff + (1 : Int32))).toNatClampNeg)), .val (.int (own_a (tt ((ff + (1 : Int32))).toNatClampNeg)))] [])) := fun tq kq => G266 tq (st269 _ kq)
          have G271 : Go p e below A0 (T269.setTop (mkF m 298 #[.val (.ref ax), .val (.ref tx), .val (.int nn), .val (.int (ff + (1 : Int32))), .val (.int ff), .val (.int (1 : Int32)), .val (.ref wb), .val (.int (1 : Int32)), .val (.int (tt ((ff + (1 : Int32))).toNatClampNeg)), .val (.int (own_a (tt ((ff + (1 : Int32))).toNatClampNeg)))] [(.int (1 : Int32)), (.ref ax)])) := fun tq kq => G270 tq (by
            refine XS.aloadN X269.here hx rfl (hb hby d6_295) rfl rfl ?_
            show Steps p.tables e below (T269.setTop (mkF m 296 #[.val (.ref ax), .val (.ref tx), .val (.int nn), .val (.int (ff + (1 : Int32))), .val (.int ff), .val (.int (1 : Int32)), .val (.ref wb), .val (.int (1 : Int32)), .val (.int (tt ((ff + (1 : Int32))).toNatClampNeg)), .val (.int (own_a (tt ((ff + (1 : Int32))).toNatClampNeg)))] [(.ref ax)])) _
            refine XS.iload X269.here hx rfl (hb hby d6_296) rfl ?_
            show Steps p.tables e below (T269.setTop (mkF m 298 #[.val (.ref ax), .val (.ref tx), .val (.int nn), .val (.int (ff + (1 : Int32))), .val (.int ff), .val (.int (1 : Int32)), .val (.ref wb), .val (.int (1 : Int32)), .val (.int (tt ((ff + (1 : Int32))).toNatClampNeg)), .val (.int (own_a (tt ((ff + (1 : Int32))).toNatClampNeg)))] [(.int (1 : Int32)), (.ref ax)])) _
            exact kq)
          have f272 := (f267.wr W269)
          have f273 := ((((F_length.other W126 (Or.inr (slot_ne (Or.inl (hw _ (List.mem_of_getElem? (i := 32) rfl))) (Or.inl (hw _ (List.mem_of_getElem? (i := 28) rfl))) (by decide) (t := .int) (t' := .int) (by decide) (by decide)))).other W150 (Or.inl haw)).other W264 (Or.inr (slot_ne (Or.inl (hw _ (List.mem_of_getElem? (i := 32) rfl))) (Or.inl (hw _ (List.mem_of_getElem? (i := 28) rfl))) (by decide) (t := .int) (t' := .int) (by decide) (by decide)))).other W269 (Or.inr (slot_ne (Or.inl (hw _ (List.mem_of_getElem? (i := 32) rfl))) (Or.inl (hw _ (List.mem_of_getElem? (i := 19) rfl))) (by decide) (t := .int) (t' := (.array .byte)) (by decide) (by decide))))
          obtain ⟨T274, h274, X274, e274, W274, st274⟩ := putF X269 hx hZ hown (host := "") (Or.inl (hw _ (List.mem_of_getElem? (i := 31) rfl))) Via.refl e269 f273 f272 (Or.inl (hw _ (List.mem_of_getElem? (i := 32) rfl))) (hw _ (List.mem_of_getElem? (i := 9) rfl)) (ty := .int) (by decide) rfl rfl (g := (mkF m 298 #[.val (.ref ax), .val (.ref tx), .val (.int nn), .val (.int (ff + (1 : Int32))), .val (.int ff), .val (.int (1 : Int32)), .val (.ref wb), .val (.int (1 : Int32)), .val (.int (tt ((ff + (1 : Int32))).toNatClampNeg)), .val (.int (own_a (tt ((ff + (1 : Int32))).toNatClampNeg)))] [(.int (1 : Int32)), (.ref ax)])) rfl rfl (hb hby d6_298)
          have N274 := Fr.snoc X274 N269 gax
          have fw274 := f273.same W274
          have G275 : Go p e below A0 (T274.setTop (mkF m 301 #[.val (.ref ax), .val (.ref tx), .val (.int nn), .val (.int (ff + (1 : Int32))), .val (.int ff), .val (.int (1 : Int32)), .val (.ref wb), .val (.int (1 : Int32)), .val (.int (tt ((ff + (1 : Int32))).toNatClampNeg)), .val (.int (own_a (tt ((ff + (1 : Int32))).toNatClampNeg)))] [])) := fun tq kq => G271 tq (st274 _ kq)
          have G276 : Go p e below A0 (T274.setTop (mkF m 302 #[.val (.ref ax), .val (.ref tx), .val (.int nn), .val (.int (ff + (1 : Int32))), .val (.int ff), .val (.int (1 : Int32)), .val (.ref wb), .val (.int (1 : Int32)), .val (.int (tt ((ff + (1 : Int32))).toNatClampNeg)), .val (.int (own_a (tt ((ff + (1 : Int32))).toNatClampNeg)))] [(.int (1 : Int32))])) := fun tq kq => G275 tq (by
            refine XS.iconst X274.here hx rfl (hb hby d6_301) ?_
            show Steps p.tables e below (T274.setTop (mkF m 302 #[.val (.ref ax), .val (.ref tx), .val (.int nn), .val (.int (ff + (1 : Int32))), .val (.int ff), .val (.int (1 : Int32)), .val (.ref wb), .val (.int (1 : Int32)), .val (.int (tt ((ff + (1 : Int32))).toNatClampNeg)), .val (.int (own_a (tt ((ff + (1 : Int32))).toNatClampNeg)))] [(.int (1 : Int32))])) _
            exact kq)
          have f277 := (((((F_text.other W126 (Or.inr (slot_ne (Or.inl (hw _ (List.mem_of_getElem? (i := 26) rfl))) (Or.inl (hw _ (List.mem_of_getElem? (i := 28) rfl))) (by decide) (t := (.array .char)) (t' := .int) (by decide) (by decide)))).other W150 (Or.inl haw)).other W264 (Or.inr (slot_ne (Or.inl (hw _ (List.mem_of_getElem? (i := 26) rfl))) (Or.inl (hw _ (List.mem_of_getElem? (i := 28) rfl))) (by decide) (t := (.array .char)) (t' := .int) (by decide) (by decide)))).other W269 (Or.inr (slot_ne (Or.inl (hw _ (List.mem_of_getElem? (i := 26) rfl))) (Or.inl (hw _ (List.mem_of_getElem? (i := 19) rfl))) (by decide) (t := (.array .char)) (t' := (.array .byte)) (by decide) (by decide)))).other W274 (Or.inr (slot_ne (Or.inl (hw _ (List.mem_of_getElem? (i := 26) rfl))) (Or.inl (hw _ (List.mem_of_getElem? (i := 32) rfl))) (by decide) (t := (.array .char)) (t' := .int) (by decide) (by decide))))
          have f278 := ((fw264.other W269 (Or.inr (slot_ne (Or.inl (hw _ (List.mem_of_getElem? (i := 28) rfl))) (Or.inl (hw _ (List.mem_of_getElem? (i := 19) rfl))) (by decide) (t := .int) (t' := (.array .byte)) (by decide) (by decide)))).other W274 (Or.inr (slot_ne (Or.inl (hw _ (List.mem_of_getElem? (i := 28) rfl))) (Or.inl (hw _ (List.mem_of_getElem? (i := 32) rfl))) (by decide) (t := .int) (t' := .int) (by decide) (by decide))))
          have f279 := (((((F_to.other W126 (Or.inr (slot_ne (Or.inl (hw _ (List.mem_of_getElem? (i := 30) rfl))) (Or.inl (hw _ (List.mem_of_getElem? (i := 28) rfl))) (by decide) (t := .int) (t' := .int) (by decide) (by decide)))).other W150 (Or.inl haw)).other W264 (Or.inr (slot_ne (Or.inl (hw _ (List.mem_of_getElem? (i := 30) rfl))) (Or.inl (hw _ (List.mem_of_getElem? (i := 28) rfl))) (by decide) (t := .int) (t' := .int) (by decide) (by decide)))).other W269 (Or.inr (slot_ne (Or.inl (hw _ (List.mem_of_getElem? (i := 30) rfl))) (Or.inl (hw _ (List.mem_of_getElem? (i := 19) rfl))) (by decide) (t := .int) (t' := (.array .byte)) (by decide) (by decide)))).other W274 (Or.inr (slot_ne (Or.inl (hw _ (List.mem_of_getElem? (i := 30) rfl))) (Or.inl (hw _ (List.mem_of_getElem? (i := 32) rfl))) (by decide) (t := .int) (t' := .int) (by decide) (by decide))))
          have f280 := (fw269.other W274 (Or.inr (slot_ne (Or.inl (hw _ (List.mem_of_getElem? (i := 19) rfl))) (Or.inl (hw _ (List.mem_of_getElem? (i := 32) rfl))) (by decide) (t := (.array .byte)) (t' := .int) (by decide) (by decide))))
          have f281 := (((V150.other W264 (Ne.symm haw)).other W269 (Ne.symm haw)).other W274 (Ne.symm haw))
          have e1 : sv = ff := by rw [hS]; simp only [own_b, own_st, hc112, hc124, hc153, hc167, not_true_eq_false, not_false_eq_true, if_true, if_false, or_true, true_or, or_false, false_or, and_true, true_and, and_false, false_and, and_self, or_self]
          have e2 : ev = (ff + (1 : Int32)) := by rw [hE, e1]; simp only [own_b, own_en, hc112, hc124, hc153, hc167, not_true_eq_false, not_false_eq_true, if_true, if_false, or_true, true_or, or_false, false_or, and_true, true_and, and_false, false_and, and_self, or_self]
          obtain ⟨fs, hr, hrun, hended, hW, hsame⟩ := X274.leave (v := some (.int (nar .boolean (1 : Int32)))) (fun h => by rw [Bd.returns] at h; cases h)
          refine ⟨_, _, (by rw [← hA0]; exact G276 _ (retN X274 hx (t := .boolean) Bd.returns (by simp) (hb hby d6_302) hr)), hrun, hended, _, _, rfl, ?_, ⟨_, rfl⟩, hW, hsame.mono (by decide) (by decide)⟩
          show Qnx Z ax tx wb tt nn sv ev kw h0 n0 _ T274.heap _
          rw [e274]
          rw [e1, e2]
          exact ⟨(own_up gw 0 (own_a (tt (ff).toNatClampNeg))), (by rw [own_bt (own_ltne hc112)]; rfl), N274, ((((((Keep.refl h0 [ax, wb]).wr W126 (Or.inl (List.mem_of_getElem? (i := 0) rfl))).wr W150 (Or.inl (List.mem_of_getElem? (i := 1) rfl))).wr W264 (Or.inl (List.mem_of_getElem? (i := 0) rfl))).wr W269 (Or.inl (List.mem_of_getElem? (i := 0) rfl))).wr W274 (Or.inl (List.mem_of_getElem? (i := 0) rfl))), f277, f278, f279, (by rw [← own_d1]; exact fw274), f280, f281, own_ct1 hz (own_le3 hfn hn3) hc124⟩
      · have G282 : Go p e below A0 (T150.setTop (mkF m 286 #[.val (.ref ax), .val (.ref tx), .val (.int nn), .val (.int (ff + (1 : Int32))), .val (.int ff), .val (.int (1 : Int32)), .val (.ref wb), .val (.int (1 : Int32)), .val (.int (tt (ff).toNatClampNeg)), .val (.int (own_a (tt (ff).toNatClampNeg)))] [(.int (ff + (1 : Int32))), (.ref ax)])) := fun tq kq => G152 tq (by
          refine XS.icmpYes X150.here hx rfl (pc0 := 116) (pc' := 216) rfl (hb hby d6_116) rfl (flt hc153).2.1 (by decide) (by decide) ?_
          show Steps p.tables e below (T150.setTop (mkF m 216 #[.val (.ref ax), .val (.ref tx), .val (.int nn), .val (.int (ff + (1 : Int32))), .val (.int ff), .val (.int (1 : Int32)), .val (.ref wb), .val (.int (1 : Int32)), .val (.int (tt (ff).toNatClampNeg)), .val (.int (own_a (tt (ff).toNatClampNeg)))] [])) _
          refine XS.iload X150.here hx rfl (hb hby d6_216) rfl ?_
          show Steps p.tables e below (T150.setTop (mkF m 218 #[.val (.ref ax), .val (.ref tx), .val (.int nn), .val (.int (ff + (1 : Int32))), .val (.int ff), .val (.int (1 : Int32)), .val (.ref wb), .val (.int (1 : Int32)), .val (.int (tt (ff).toNatClampNeg)), .val (.int (own_a (tt (ff).toNatClampNeg)))] [(.int (1 : Int32))])) _
          refine XS.ifYes X150.here hx rfl (pc0 := 218) (pc' := 284) rfl (hb hby d6_218) rfl (by decide) (by decide) (by decide) ?_
          show Steps p.tables e below (T150.setTop (mkF m 284 #[.val (.ref ax), .val (.ref tx), .val (.int nn), .val (.int (ff + (1 : Int32))), .val (.int ff), .val (.int (1 : Int32)), .val (.ref wb), .val (.int (1 : Int32)), .val (.int (tt (ff).toNatClampNeg)), .val (.int (own_a (tt (ff).toNatClampNeg)))] [])) _
          refine XS.aloadN X150.here hx rfl (hb hby d6_284) rfl rfl ?_
          show Steps p.tables e below (T150.setTop (mkF m 285 #[.val (.ref ax), .val (.ref tx), .val (.int nn), .val (.int (ff + (1 : Int32))), .val (.int ff), .val (.int (1 : Int32)), .val (.ref wb), .val (.int (1 : Int32)), .val (.int (tt (ff).toNatClampNeg)), .val (.int (own_a (tt (ff).toNatClampNeg)))] [(.ref ax)])) _
          refine XS.iloadN X150.here hx rfl (hb hby d6_285) rfl ?_
          show Steps p.tables e below (T150.setTop (mkF m 286 #[.val (.ref ax), .val (.ref tx), .val (.int nn), .val (.int (ff + (1 : Int32))), .val (.int ff), .val (.int (1 : Int32)), .val (.ref wb), .val (.int (1 : Int32)), .val (.int (tt (ff).toNatClampNeg)), .val (.int (own_a (tt (ff).toNatClampNeg)))] [(.int (ff + (1 : Int32))), (.ref ax)])) _
          exact kq)
        have f283 := ((E.wr W126).wr W150)
        have f284 := (fw126.other W150 (Or.inl haw))
        obtain ⟨T285, h285, X285, e285, W285, st285⟩ := putF X150 hx hZ hown (host := "") (Or.inl (hw _ (List.mem_of_getElem? (i := 27) rfl))) Via.refl e150 f284 f283 (Or.inl (hw _ (List.mem_of_getElem? (i := 28) rfl))) (hw _ (List.mem_of_getElem? (i := 9) rfl)) (ty := .int) (by decide) rfl rfl (g := (mkF m 286 #[.val (.ref ax), .val (.ref tx), .val (.int nn), .val (.int (ff + (1 : Int32))), .val (.int ff), .val (.int (1 : Int32)), .val (.ref wb), .val (.int (1 : Int32)), .val (.int (tt (ff).toNatClampNeg)), .val (.int (own_a (tt (ff).toNatClampNeg)))] [(.int (ff + (1 : Int32))), (.ref ax)])) rfl rfl (hb hby d6_286)
        have N285 := Fr.snoc X285 N150 gax
        have fw285 := f284.same W285
        have G286 : Go p e below A0 (T285.setTop (mkF m 289 #[.val (.ref ax), .val (.ref tx), .val (.int nn), .val (.int (ff + (1 : Int32))), .val (.int ff), .val (.int (1 : Int32)), .val (.ref wb), .val (.int (1 : Int32)), .val (.int (tt (ff).toNatClampNeg)), .val (.int (own_a (tt (ff).toNatClampNeg)))] [])) := fun tq kq => G282 tq (st285 _ kq)
        have G287 : Go p e below A0 (T285.setTop (mkF m 292 #[.val (.ref ax), .val (.ref tx), .val (.int nn), .val (.int (ff + (1 : Int32))), .val (.int ff), .val (.int (1 : Int32)), .val (.ref wb), .val (.int (1 : Int32)), .val (.int (tt (ff).toNatClampNeg)), .val (.int (own_a (tt (ff).toNatClampNeg)))] [(.ref wb), (.ref ax)])) := fun tq kq => G286 tq (by
          refine XS.aloadN X285.here hx rfl (hb hby d6_289) rfl rfl ?_
          show Steps p.tables e below (T285.setTop (mkF m 290 #[.val (.ref ax), .val (.ref tx), .val (.int nn), .val (.int (ff + (1 : Int32))), .val (.int ff), .val (.int (1 : Int32)), .val (.ref wb), .val (.int (1 : Int32)), .val (.int (tt (ff).toNatClampNeg)), .val (.int (own_a (tt (ff).toNatClampNeg)))] [(.ref ax)])) _
          refine XS.aload X285.here hx rfl (hb hby d6_290) rfl rfl ?_
          show Steps p.tables e below (T285.setTop (mkF m 292 #[.val (.ref ax), .val (.ref tx), .val (.int nn), .val (.int (ff + (1 : Int32))), .val (.int ff), .val (.int (1 : Int32)), .val (.ref wb), .val (.int (1 : Int32)), .val (.int (tt (ff).toNatClampNeg)), .val (.int (own_a (tt (ff).toNatClampNeg)))] [(.ref wb), (.ref ax)])) _
          exact kq)
        have f288 := (f283.wr W285)
        have f289 := ((f129.other W150 (Or.inl haw)).other W285 (Or.inr (slot_ne (Or.inl (hw _ (List.mem_of_getElem? (i := 19) rfl))) (Or.inl (hw _ (List.mem_of_getElem? (i := 28) rfl))) (by decide) (t := (.array .byte)) (t' := .int) (by decide) (by decide))))
        obtain ⟨T290, h290, X290, e290, W290, st290⟩ := putF X285 hx hZ hown (host := "") (Or.inl (hw _ (List.mem_of_getElem? (i := 18) rfl))) Via.refl e285 f289 f288 (Or.inl (hw _ (List.mem_of_getElem? (i := 19) rfl))) (hw _ (List.mem_of_getElem? (i := 9) rfl)) (ty := (.array .byte)) (by decide) rfl rfl (g := (mkF m 292 #[.val (.ref ax), .val (.ref tx), .val (.int nn), .val (.int (ff + (1 : Int32))), .val (.int ff), .val (.int (1 : Int32)), .val (.ref wb), .val (.int (1 : Int32)), .val (.int (tt (ff).toNatClampNeg)), .val (.int (own_a (tt (ff).toNatClampNeg)))] [(.ref wb), (.ref ax)])) rfl rfl (hb hby d6_292)
        have N290 := Fr.snoc X290 N285 gax
        have fw290 := f289.same W290
        have G291 : Go p e below A0 (T290.setTop (mkF m 295 #[.val (.ref ax), .val (.ref tx), .val (.int nn), .val (.int (ff + (1 : Int32))), .val (.int ff), .val (.int (1 : Int32)), .val (.ref wb), .val (.int (1 : Int32)), .val (.int (tt (ff).toNatClampNeg)), .val (.int (own_a (tt (ff).toNatClampNeg)))] [])) := fun tq kq => G287 tq (st290 _ kq)
        have G292 : Go p e below A0 (T290.setTop (mkF m 298 #[.val (.ref ax), .val (.ref tx), .val (.int nn), .val (.int (ff + (1 : Int32))), .val (.int ff), .val (.int (1 : Int32)), .val (.ref wb), .val (.int (1 : Int32)), .val (.int (tt (ff).toNatClampNeg)), .val (.int (own_a (tt (ff).toNatClampNeg)))] [(.int (1 : Int32)), (.ref ax)])) := fun tq kq => G291 tq (by
          refine XS.aloadN X290.here hx rfl (hb hby d6_295) rfl rfl ?_
          show Steps p.tables e below (T290.setTop (mkF m 296 #[.val (.ref ax), .val (.ref tx), .val (.int nn), .val (.int (ff + (1 : Int32))), .val (.int ff), .val (.int (1 : Int32)), .val (.ref wb), .val (.int (1 : Int32)), .val (.int (tt (ff).toNatClampNeg)), .val (.int (own_a (tt (ff).toNatClampNeg)))] [(.ref ax)])) _
          refine XS.iload X290.here hx rfl (hb hby d6_296) rfl ?_
          show Steps p.tables e below (T290.setTop (mkF m 298 #[.val (.ref ax), .val (.ref tx), .val (.int nn), .val (.int (ff + (1 : Int32))), .val (.int ff), .val (.int (1 : Int32)), .val (.ref wb), .val (.int (1 : Int32)), .val (.int (tt (ff).toNatClampNeg)), .val (.int (own_a (tt (ff).toNatClampNeg)))] [(.int (1 : Int32)), (.ref ax)])) _
          exact kq)
        have f293 := (f288.wr W290)
        have f294 := ((((F_length.other W126 (Or.inr (slot_ne (Or.inl (hw _ (List.mem_of_getElem? (i := 32) rfl))) (Or.inl (hw _ (List.mem_of_getElem? (i := 28) rfl))) (by decide) (t := .int) (t' := .int) (by decide) (by decide)))).other W150 (Or.inl haw)).other W285 (Or.inr (slot_ne (Or.inl (hw _ (List.mem_of_getElem? (i := 32) rfl))) (Or.inl (hw _ (List.mem_of_getElem? (i := 28) rfl))) (by decide) (t := .int) (t' := .int) (by decide) (by decide)))).other W290 (Or.inr (slot_ne (Or.inl (hw _ (List.mem_of_getElem? (i := 32) rfl))) (Or.inl (hw _ (List.mem_of_getElem? (i := 19) rfl))) (by decide) (t := .int) (t' := (.array .byte)) (by decide) (by decide))))
        obtain ⟨T295, h295, X295, e295, W295, st295⟩ := putF X290 hx hZ hown (host := "") (Or.inl (hw _ (List.mem_of_getElem? (i := 31) rfl))) Via.refl e290 f294 f293 (Or.inl (hw _ (List.mem_of_getElem? (i := 32) rfl))) (hw _ (List.mem_of_getElem? (i := 9) rfl)) (ty := .int) (by decide) rfl rfl (g := (mkF m 298 #[.val (.ref ax), .val (.ref tx), .val (.int nn), .val (.int (ff + (1 : Int32))), .val (.int ff), .val (.int (1 : Int32)), .val (.ref wb), .val (.int (1 : Int32)), .val (.int (tt (ff).toNatClampNeg)), .val (.int (own_a (tt (ff).toNatClampNeg)))] [(.int (1 : Int32)), (.ref ax)])) rfl rfl (hb hby d6_298)
        have N295 := Fr.snoc X295 N290 gax
        have fw295 := f294.same W295
        have G296 : Go p e below A0 (T295.setTop (mkF m 301 #[.val (.ref ax), .val (.ref tx), .val (.int nn), .val (.int (ff + (1 : Int32))), .val (.int ff), .val (.int (1 : Int32)), .val (.ref wb), .val (.int (1 : Int32)), .val (.int (tt (ff).toNatClampNeg)), .val (.int (own_a (tt (ff).toNatClampNeg)))] [])) := fun tq kq => G292 tq (st295 _ kq)
        have G297 : Go p e below A0 (T295.setTop (mkF m 302 #[.val (.ref ax), .val (.ref tx), .val (.int nn), .val (.int (ff + (1 : Int32))), .val (.int ff), .val (.int (1 : Int32)), .val (.ref wb), .val (.int (1 : Int32)), .val (.int (tt (ff).toNatClampNeg)), .val (.int (own_a (tt (ff).toNatClampNeg)))] [(.int (1 : Int32))])) := fun tq kq => G296 tq (by
          refine XS.iconst X295.here hx rfl (hb hby d6_301) ?_
          show Steps p.tables e below (T295.setTop (mkF m 302 #[.val (.ref ax), .val (.ref tx), .val (.int nn), .val (.int (ff + (1 : Int32))), .val (.int ff), .val (.int (1 : Int32)), .val (.ref wb), .val (.int (1 : Int32)), .val (.int (tt (ff).toNatClampNeg)), .val (.int (own_a (tt (ff).toNatClampNeg)))] [(.int (1 : Int32))])) _
          exact kq)
        have f298 := (((((F_text.other W126 (Or.inr (slot_ne (Or.inl (hw _ (List.mem_of_getElem? (i := 26) rfl))) (Or.inl (hw _ (List.mem_of_getElem? (i := 28) rfl))) (by decide) (t := (.array .char)) (t' := .int) (by decide) (by decide)))).other W150 (Or.inl haw)).other W285 (Or.inr (slot_ne (Or.inl (hw _ (List.mem_of_getElem? (i := 26) rfl))) (Or.inl (hw _ (List.mem_of_getElem? (i := 28) rfl))) (by decide) (t := (.array .char)) (t' := .int) (by decide) (by decide)))).other W290 (Or.inr (slot_ne (Or.inl (hw _ (List.mem_of_getElem? (i := 26) rfl))) (Or.inl (hw _ (List.mem_of_getElem? (i := 19) rfl))) (by decide) (t := (.array .char)) (t' := (.array .byte)) (by decide) (by decide)))).other W295 (Or.inr (slot_ne (Or.inl (hw _ (List.mem_of_getElem? (i := 26) rfl))) (Or.inl (hw _ (List.mem_of_getElem? (i := 32) rfl))) (by decide) (t := (.array .char)) (t' := .int) (by decide) (by decide))))
        have f299 := ((fw285.other W290 (Or.inr (slot_ne (Or.inl (hw _ (List.mem_of_getElem? (i := 28) rfl))) (Or.inl (hw _ (List.mem_of_getElem? (i := 19) rfl))) (by decide) (t := .int) (t' := (.array .byte)) (by decide) (by decide)))).other W295 (Or.inr (slot_ne (Or.inl (hw _ (List.mem_of_getElem? (i := 28) rfl))) (Or.inl (hw _ (List.mem_of_getElem? (i := 32) rfl))) (by decide) (t := .int) (t' := .int) (by decide) (by decide))))
        have f300 := (((((F_to.other W126 (Or.inr (slot_ne (Or.inl (hw _ (List.mem_of_getElem? (i := 30) rfl))) (Or.inl (hw _ (List.mem_of_getElem? (i := 28) rfl))) (by decide) (t := .int) (t' := .int) (by decide) (by decide)))).other W150 (Or.inl haw)).other W285 (Or.inr (slot_ne (Or.inl (hw _ (List.mem_of_getElem? (i := 30) rfl))) (Or.inl (hw _ (List.mem_of_getElem? (i := 28) rfl))) (by decide) (t := .int) (t' := .int) (by decide) (by decide)))).other W290 (Or.inr (slot_ne (Or.inl (hw _ (List.mem_of_getElem? (i := 30) rfl))) (Or.inl (hw _ (List.mem_of_getElem? (i := 19) rfl))) (by decide) (t := .int) (t' := (.array .byte)) (by decide) (by decide)))).other W295 (Or.inr (slot_ne (Or.inl (hw _ (List.mem_of_getElem? (i := 30) rfl))) (Or.inl (hw _ (List.mem_of_getElem? (i := 32) rfl))) (by decide) (t := .int) (t' := .int) (by decide) (by decide))))
        have f301 := (fw290.other W295 (Or.inr (slot_ne (Or.inl (hw _ (List.mem_of_getElem? (i := 19) rfl))) (Or.inl (hw _ (List.mem_of_getElem? (i := 32) rfl))) (by decide) (t := (.array .byte)) (t' := .int) (by decide) (by decide))))
        have f302 := (((V150.other W285 (Ne.symm haw)).other W290 (Ne.symm haw)).other W295 (Ne.symm haw))
        have e1 : sv = ff := by rw [hS]; simp only [own_b, own_st, hc112, hc124, hc153, not_true_eq_false, not_false_eq_true, if_true, if_false, or_true, true_or, or_false, false_or, and_true, true_and, and_false, false_and, and_self, or_self]
        have e2 : ev = (ff + (1 : Int32)) := by rw [hE, e1]; simp only [own_b, own_en, hc112, hc124, hc153, not_true_eq_false, not_false_eq_true, if_true, if_false, or_true, true_or, or_false, false_or, and_true, true_and, and_false, false_and, and_self, or_self]
        obtain ⟨fs, hr, hrun, hended, hW, hsame⟩ := X295.leave (v := some (.int (nar .boolean (1 : Int32)))) (fun h => by rw [Bd.returns] at h; cases h)
        refine ⟨_, _, (by rw [← hA0]; exact G297 _ (retN X295 hx (t := .boolean) Bd.returns (by simp) (hb hby d6_302) hr)), hrun, hended, _, _, rfl, ?_, ⟨_, rfl⟩, hW, hsame.mono (by decide) (by decide)⟩
        show Qnx Z ax tx wb tt nn sv ev kw h0 n0 _ T295.heap _
        rw [e295]
        rw [e1, e2]
        exact ⟨(own_up gw 0 (own_a (tt (ff).toNatClampNeg))), (by rw [own_bt (own_ltne hc112)]; rfl), N295, ((((((Keep.refl h0 [ax, wb]).wr W126 (Or.inl (List.mem_of_getElem? (i := 0) rfl))).wr W150 (Or.inl (List.mem_of_getElem? (i := 1) rfl))).wr W285 (Or.inl (List.mem_of_getElem? (i := 0) rfl))).wr W290 (Or.inl (List.mem_of_getElem? (i := 0) rfl))).wr W295 (Or.inl (List.mem_of_getElem? (i := 0) rfl))), f298, f299, f300, (by rw [← own_d1]; exact fw295), f301, f302, own_ct1 hz (own_le3 hfn hn3) hc124⟩
    · have G303 : Go p e below A0 (T118.setTop (mkF m 17 #[.val (.ref ax), .val (.ref tx), .val (.int nn), .val (.int (ff + (1 : Int32))), .val (.int (tt (ff).toNatClampNeg)), .unset, .unset, .unset, .unset, .unset] [(.int nn), (.int (ff + (1 : Int32)))])) := fun tq kq => G123 tq (by
        refine XS.ifYes X118.here hx rfl (pc0 := 39) (pc' := 60) rfl (hb hby d6_39) rfl ((if0 _ _).trans (teq (own_a0 hc124)).1) (by decide) (by decide) ?_
        show Steps p.tables e below (T118.setTop (mkF m 60 #[.val (.ref ax), .val (.ref tx), .val (.int nn), .val (.int ff), .val (.int (tt (ff).toNatClampNeg)), .unset, .unset, .unset, .unset, .unset] [])) _
        refine XS.iloadN X118.here hx rfl (hb hby d6_60) rfl ?_
        show Steps p.tables e below (T118.setTop (mkF m 61 #[.val (.ref ax), .val (.ref tx), .val (.int nn), .val (.int ff), .val (.int (tt (ff).toNatClampNeg)), .unset, .unset, .unset, .unset, .unset] [(.int ff)])) _
        refine XS.iload X118.here hx rfl (hb hby d6_61) rfl ?_
        show Steps p.tables e below (T118.setTop (mkF m 63 #[.val (.ref ax), .val (.ref tx), .val (.int nn), .val (.int ff), .val (.int (tt (ff).toNatClampNeg)), .unset, .unset, .unset, .unset, .unset] [(.int (tt (ff).toNatClampNeg)), (.int ff)])) _
        refine XS.sipush X118.here hx rfl (hb hby d6_63) ?_
        show Steps p.tables e below (T118.setTop (mkF m 66 #[.val (.ref ax), .val (.ref tx), .val (.int nn), .val (.int ff), .val (.int (tt (ff).toNatClampNeg)), .unset, .unset, .unset, .unset, .unset] [(.int (128 : Int32)), (.int (tt (ff).toNatClampNeg)), (.int ff)])) _
        refine XS.icmpNo X118.here hx rfl (hb hby d6_66) rfl (tlt ri116.2).2.1 ?_
        show Steps p.tables e below (T118.setTop (mkF m 69 #[.val (.ref ax), .val (.ref tx), .val (.int nn), .val (.int ff), .val (.int (tt (ff).toNatClampNeg)), .unset, .unset, .unset, .unset, .unset] [(.int ff)])) _
        refine XS.iconst X118.here hx rfl (hb hby d6_69) ?_
        show Steps p.tables e below (T118.setTop (mkF m 70 #[.val (.ref ax), .val (.ref tx), .val (.int nn), .val (.int ff), .val (.int (tt (ff).toNatClampNeg)), .unset, .unset, .unset, .unset, .unset] [(.int (1 : Int32)), (.int ff)])) _
        refine XS.goto X118.here hx rfl (pc0 := 70) (pc' := 82) rfl (hb hby d6_70) (by decide) (by decide) ?_
        show Steps p.tables e below (T118.setTop (mkF m 82 #[.val (.ref ax), .val (.ref tx), .val (.int nn), .val (.int ff), .val (.int (tt (ff).toNatClampNeg)), .unset, .unset, .unset, .unset, .unset] [(.int (1 : Int32)), (.int ff)])) _
        refine XS.iadd X118.here hx rfl (hb hby d6_82) rfl ?_
        show Steps p.tables e below (T118.setTop (mkF m 83 #[.val (.ref ax), .val (.ref tx), .val (.int nn), .val (.int ff), .val (.int (tt (ff).toNatClampNeg)), .unset, .unset, .unset, .unset, .unset] [(.int (ff + (1 : Int32)))])) _
        refine XS.istoreN X118.here hx rfl (hb hby d6_83) rfl (l' := #[.val (.ref ax), .val (.ref tx), .val (.int nn), .val (.int (ff + (1 : Int32))), .val (.int (tt (ff).toNatClampNeg)), .unset, .unset, .unset, .unset, .unset]) rfl ?_
        show Steps p.tables e below (T118.setTop (mkF m 84 #[.val (.ref ax), .val (.ref tx), .val (.int nn), .val (.int (ff + (1 : Int32))), .val (.int (tt (ff).toNatClampNeg)), .unset, .unset, .unset, .unset, .unset] [])) _
        refine XS.goto X118.here hx rfl (pc0 := 84) (pc' := 15) rfl (hb hby d6_84) (by decide) (by decide) ?_
        show Steps p.tables e below (T118.setTop (mkF m 15 #[.val (.ref ax), .val (.ref tx), .val (.int nn), .val (.int (ff + (1 : Int32))), .val (.int (tt (ff).toNatClampNeg)), .unset, .unset, .unset, .unset, .unset] [])) _
        refine XS.iloadN X118.here hx rfl (hb hby d6_15) rfl ?_
        show Steps p.tables e below (T118.setTop (mkF m 16 #[.val (.ref ax), .val (.ref tx), .val (.int nn), .val (.int (ff + (1 : Int32))), .val (.int (tt (ff).toNatClampNeg)), .unset, .unset, .unset, .unset, .unset] [(.int (ff + (1 : Int32)))])) _
        refine XS.iloadN X118.here hx rfl (hb hby d6_16) rfl ?_
        show Steps p.tables e below (T118.setTop (mkF m 17 #[.val (.ref ax), .val (.ref tx), .val (.int nn), .val (.int (ff + (1 : Int32))), .val (.int (tt (ff).toNatClampNeg)), .unset, .unset, .unset, .unset, .unset] [(.int nn), (.int (ff + (1 : Int32)))])) _
        exact kq)
      by_cases hc304 : (ff + (1 : Int32)) < nn
      · have G305 : Go p e below A0 (T118.setTop (mkF m 22 #[.val (.ref ax), .val (.ref tx), .val (.int nn), .val (.int (ff + (1 : Int32))), .val (.int (tt (ff).toNatClampNeg)), .unset, .unset, .unset, .unset, .unset] [(.int (ff + (1 : Int32))), (.ref tx)])) := fun tq kq => G303 tq (by
          refine XS.icmpNo X118.here hx rfl (hb hby d6_17) rfl (tlt hc304).2.1 ?_
          show Steps p.tables e below (T118.setTop (mkF m 20 #[.val (.ref ax), .val (.ref tx), .val (.int nn), .val (.int (ff + (1 : Int32))), .val (.int (tt (ff).toNatClampNeg)), .unset, .unset, .unset, .unset, .unset] [])) _
          refine XS.aloadN X118.here hx rfl (hb hby d6_20) rfl rfl ?_
          show Steps p.tables e below (T118.setTop (mkF m 21 #[.val (.ref ax), .val (.ref tx), .val (.int nn), .val (.int (ff + (1 : Int32))), .val (.int (tt (ff).toNatClampNeg)), .unset, .unset, .unset, .unset, .unset] [(.ref tx)])) _
          refine XS.iloadN X118.here hx rfl (hb hby d6_21) rfl ?_
          show Steps p.tables e below (T118.setTop (mkF m 22 #[.val (.ref ax), .val (.ref tx), .val (.int nn), .val (.int (ff + (1 : Int32))), .val (.int (tt (ff).toNatClampNeg)), .unset, .unset, .unset, .unset, .unset] [(.int (ff + (1 : Int32))), (.ref tx)])) _
          exact kq)
        obtain ⟨cl306, Ar306, q306, S306, M306, H306⟩ := id At
        have i308 : ¬ (ff + (1 : Int32)) < 0 ∧ (ff + (1 : Int32)) < zt := ⟨zi116, own_ltt hc304 hnz⟩
        have ri308 := htt _ (own_natl i308.1 i308.2)
        have zi308 := own_pos zi116 hc304
        have li308 := own_nlt1 hc304
        have hi307 : ¬ ((ff + (1 : Int32)) < 0 ∨ cl306.slots.size ≤ ((ff + (1 : Int32))).toNatClampNeg) := (inb_of S306 i308)
        have G309 : Go p e below A0 (T118.setTop (mkF m 33 #[.val (.ref ax), .val (.ref tx), .val (.int nn), .val (.int (ff + (1 : Int32))), .val (.int (tt ((ff + (1 : Int32))).toNatClampNeg)), .unset, .unset, .unset, .unset, .unset] [])) := fun tq kq => G305 tq (by
          refine X118.caload hx (j := (ff + (1 : Int32))) (v := (.int (tt ((ff + (1 : Int32))).toNatClampNeg))) (by rw [e118]; exact Ar306.1) (State.isArrayOf_alike hZ.alike Ar306.2.1) Ar306.2.2 hi307 ((H306 _ (S306 ▸ Nat.lt_of_not_le fun y => hi307 (Or.inr y))).trans (congrArg some rfl)) (g := (mkF m 22 #[.val (.ref ax), .val (.ref tx), .val (.int nn), .val (.int (ff + (1 : Int32))), .val (.int (tt (ff).toNatClampNeg)), .unset, .unset, .unset, .unset, .unset] [(.int (ff + (1 : Int32))), (.ref tx)])) rfl rfl (hb hby d6_22) _ ?_
          show Steps p.tables e below (T118.setTop (mkF m 23 #[.val (.ref ax), .val (.ref tx), .val (.int nn), .val (.int (ff + (1 : Int32))), .val (.int (tt (ff).toNatClampNeg)), .unset, .unset, .unset, .unset, .unset] [(.int (tt ((ff + (1 : Int32))).toNatClampNeg))])) _
          refine XS.istore X118.here hx rfl (hb hby d6_23) rfl (l' := #[.val (.ref ax), .val (.ref tx), .val (.int nn), .val (.int (ff + (1 : Int32))), .val (.int (tt ((ff + (1 : Int32))).toNatClampNeg)), .unset, .unset, .unset, .unset, .unset]) rfl ?_
          show Steps p.tables e below (T118.setTop (mkF m 25 #[.val (.ref ax), .val (.ref tx), .val (.int nn), .val (.int (ff + (1 : Int32))), .val (.int (tt ((ff + (1 : Int32))).toNatClampNeg)), .unset, .unset, .unset, .unset, .unset] [])) _
          refine XS.iload X118.here hx rfl (hb hby d6_25) rfl ?_
          show Steps p.tables e below (T118.setTop (mkF m 27 #[.val (.ref ax), .val (.ref tx), .val (.int nn), .val (.int (ff + (1 : Int32))), .val (.int (tt ((ff + (1 : Int32))).toNatClampNeg)), .unset, .unset, .unset, .unset, .unset] [(.int (tt ((ff + (1 : Int32))).toNatClampNeg))])) _
          refine XS.sipush X118.here hx rfl (hb hby d6_27) ?_
          show Steps p.tables e below (T118.setTop (mkF m 30 #[.val (.ref ax), .val (.ref tx), .val (.int nn), .val (.int (ff + (1 : Int32))), .val (.int (tt ((ff + (1 : Int32))).toNatClampNeg)), .unset, .unset, .unset, .unset, .unset] [(.int (128 : Int32)), (.int (tt ((ff + (1 : Int32))).toNatClampNeg))])) _
          refine XS.icmpNo X118.here hx rfl (hb hby d6_30) rfl (tlt ri308.2).2.1 ?_
          show Steps p.tables e below (T118.setTop (mkF m 33 #[.val (.ref ax), .val (.ref tx), .val (.int nn), .val (.int (ff + (1 : Int32))), .val (.int (tt ((ff + (1 : Int32))).toNatClampNeg)), .unset, .unset, .unset, .unset, .unset] [])) _
          exact kq)
        obtain ⟨T310, X310, e310, st310⟩ := getS2 X118 hx hZ hown (host := "") (Or.inl (hw _ (List.mem_of_getElem? (i := 38) rfl))) Via.refl e118 (hSd.ext hold.2) (g := (mkF m 33 #[.val (.ref ax), .val (.ref tx), .val (.int nn), .val (.int (ff + (1 : Int32))), .val (.int (tt ((ff + (1 : Int32))).toNatClampNeg)), .unset, .unset, .unset, .unset, .unset] [])) rfl (hb hby d6_33)
        have G311 : Go p e below A0 (T310.setTop (mkF m 36 #[.val (.ref ax), .val (.ref tx), .val (.int nn), .val (.int (ff + (1 : Int32))), .val (.int (tt ((ff + (1 : Int32))).toNatClampNeg)), .unset, .unset, .unset, .unset, .unset] [(.ref tb)])) := fun tq kq => G309 tq (st310 _ kq)
        have G312 : Go p e below A0 (T310.setTop (mkF m 38 #[.val (.ref ax), .val (.ref tx), .val (.int nn), .val (.int (ff + (1 : Int32))), .val (.int (tt ((ff + (1 : Int32))).toNatClampNeg)), .unset, .unset, .unset, .unset, .unset] [(.int (tt ((ff + (1 : Int32))).toNatClampNeg)), (.ref tb)])) := fun tq kq => G311 tq (by
          refine XS.iload X310.here hx rfl (hb hby d6_36) rfl ?_
          show Steps p.tables e below (T310.setTop (mkF m 38 #[.val (.ref ax), .val (.ref tx), .val (.int nn), .val (.int (ff + (1 : Int32))), .val (.int (tt ((ff + (1 : Int32))).toNatClampNeg)), .unset, .unset, .unset, .unset, .unset] [(.int (tt ((ff + (1 : Int32))).toNatClampNeg)), (.ref tb)])) _
          exact kq)
        obtain ⟨cl313, Ar313, q313, S313, M313, H313⟩ := id hAd0
        have hi314 : ¬ ((tt ((ff + (1 : Int32))).toNatClampNeg) < 0 ∨ cl313.slots.size ≤ ((tt ((ff + (1 : Int32))).toNatClampNeg)).toNatClampNeg) := (inb_of S313 ri308)
        have G315 : Go p e below A0 (T310.setTop (mkF m 39 #[.val (.ref ax), .val (.ref tx), .val (.int nn), .val (.int (ff + (1 : Int32))), .val (.int (tt ((ff + (1 : Int32))).toNatClampNeg)), .unset, .unset, .unset, .unset, .unset] [(.int (own_a (tt ((ff + (1 : Int32))).toNatClampNeg)))])) := fun tq kq => G312 tq (by
          refine X310.baloadBytes hx (j := (tt ((ff + (1 : Int32))).toNatClampNeg)) (v := (.int (own_a (tt ((ff + (1 : Int32))).toNatClampNeg)))) (by rw [e310]; exact Ar313.1) (State.isArrayOf_alike hZ.alike Ar313.2.1) Ar313.2.2 hi314 ((H313 _ (S313 ▸ Nat.lt_of_not_le fun y => hi314 (Or.inr y))).trans (congrArg some (congrArg (fun q => Value.int (own_a q)) (own_back ri308.1)))) (g := (mkF m 38 #[.val (.ref ax), .val (.ref tx), .val (.int nn), .val (.int (ff + (1 : Int32))), .val (.int (tt ((ff + (1 : Int32))).toNatClampNeg)), .unset, .unset, .unset, .unset, .unset] [(.int (tt ((ff + (1 : Int32))).toNatClampNeg)), (.ref tb)])) rfl rfl (hb hby d6_38) _ ?_
          show Steps p.tables e below (T310.setTop (mkF m 39 #[.val (.ref ax), .val (.ref tx), .val (.int nn), .val (.int (ff + (1 : Int32))), .val (.int (tt ((ff + (1 : Int32))).toNatClampNeg)), .unset, .unset, .unset, .unset, .unset] [(.int (own_a (tt ((ff + (1 : Int32))).toNatClampNeg)))])) _
          exact kq)
        by_cases hc316 : (own_W (tt ((ff + (1 : Int32))).toNatClampNeg))
        · have G317 : Go p e below A0 (T310.setTop (mkF m 89 #[.val (.ref ax), .val (.ref tx), .val (.int nn), .val (.int (ff + (1 : Int32))), .val (.int (tt ((ff + (1 : Int32))).toNatClampNeg)), .unset, .unset, .unset, .unset, .unset] [(.int (ff + (1 : Int32))), (.ref ax)])) := fun tq kq => G315 tq (by
            refine XS.ifNo X310.here hx rfl (hb hby d6_39) rfl ((if0 _ _).trans (feq (own_a1 hc316)).1) ?_
            show Steps p.tables e below (T310.setTop (mkF m 42 #[.val (.ref ax), .val (.ref tx), .val (.int nn), .val (.int (ff + (1 : Int32))), .val (.int (tt ((ff + (1 : Int32))).toNatClampNeg)), .unset, .unset, .unset, .unset, .unset] [])) _
            refine XS.goto X310.here hx rfl (pc0 := 42) (pc' := 87) rfl (hb hby d6_42) (by decide) (by decide) ?_
            show Steps p.tables e below (T310.setTop (mkF m 87 #[.val (.ref ax), .val (.ref tx), .val (.int nn), .val (.int (ff + (1 : Int32))), .val (.int (tt ((ff + (1 : Int32))).toNatClampNeg)), .unset, .unset, .unset, .unset, .unset] [])) _
            refine XS.aloadN X310.here hx rfl (hb hby d6_87) rfl rfl ?_
            show Steps p.tables e below (T310.setTop (mkF m 88 #[.val (.ref ax), .val (.ref tx), .val (.int nn), .val (.int (ff + (1 : Int32))), .val (.int (tt ((ff + (1 : Int32))).toNatClampNeg)), .unset, .unset, .unset, .unset, .unset] [(.ref ax)])) _
            refine XS.iloadN X310.here hx rfl (hb hby d6_88) rfl ?_
            show Steps p.tables e below (T310.setTop (mkF m 89 #[.val (.ref ax), .val (.ref tx), .val (.int nn), .val (.int (ff + (1 : Int32))), .val (.int (tt ((ff + (1 : Int32))).toNatClampNeg)), .unset, .unset, .unset, .unset, .unset] [(.int (ff + (1 : Int32))), (.ref ax)])) _
            exact kq)
          obtain ⟨T318, h318, X318, e318, W318, st318⟩ := putF X310 hx hZ hown (host := "") (Or.inl (hw _ (List.mem_of_getElem? (i := 27) rfl))) Via.refl e310 F_at E (Or.inl (hw _ (List.mem_of_getElem? (i := 28) rfl))) (hw _ (List.mem_of_getElem? (i := 9) rfl)) (ty := .int) (by decide) rfl rfl (g := (mkF m 89 #[.val (.ref ax), .val (.ref tx), .val (.int nn), .val (.int (ff + (1 : Int32))), .val (.int (tt ((ff + (1 : Int32))).toNatClampNeg)), .unset, .unset, .unset, .unset, .unset] [(.int (ff + (1 : Int32))), (.ref ax)])) rfl rfl (hb hby d6_89)
          have N318 := Fr.snoc X318 N0 gax
          have fw318 := F_at.same W318
          have G319 : Go p e below A0 (T318.setTop (mkF m 92 #[.val (.ref ax), .val (.ref tx), .val (.int nn), .val (.int (ff + (1 : Int32))), .val (.int (tt ((ff + (1 : Int32))).toNatClampNeg)), .unset, .unset, .unset, .unset, .unset] [])) := fun tq kq => G317 tq (st318 _ kq)
          have G320 : Go p e below A0 (T318.setTop (mkF m 106 #[.val (.ref ax), .val (.ref tx), .val (.int nn), .val (.int (ff + (1 : Int32))), .val (.int (ff + (1 : Int32))), .val (.int (1 : Int32)), .unset, .unset, .unset, .unset] [(.ref ax)])) := fun tq kq => G319 tq (by
            refine XS.iloadN X318.here hx rfl (hb hby d6_92) rfl ?_
            show Steps p.tables e below (T318.setTop (mkF m 93 #[.val (.ref ax), .val (.ref tx), .val (.int nn), .val (.int (ff + (1 : Int32))), .val (.int (tt ((ff + (1 : Int32))).toNatClampNeg)), .unset, .unset, .unset, .unset, .unset] [(.int (ff + (1 : Int32)))])) _
            refine XS.iloadN X318.here hx rfl (hb hby d6_93) rfl ?_
            show Steps p.tables e below (T318.setTop (mkF m 94 #[.val (.ref ax), .val (.ref tx), .val (.int nn), .val (.int (ff + (1 : Int32))), .val (.int (tt ((ff + (1 : Int32))).toNatClampNeg)), .unset, .unset, .unset, .unset, .unset] [(.int nn), (.int (ff + (1 : Int32)))])) _
            refine XS.icmpYes X318.here hx rfl (pc0 := 94) (pc' := 99) rfl (hb hby d6_94) rfl (feq (own_ltne hc304)).2 (by decide) (by decide) ?_
            show Steps p.tables e below (T318.setTop (mkF m 99 #[.val (.ref ax), .val (.ref tx), .val (.int nn), .val (.int (ff + (1 : Int32))), .val (.int (tt ((ff + (1 : Int32))).toNatClampNeg)), .unset, .unset, .unset, .unset, .unset] [])) _
            refine XS.iloadN X318.here hx rfl (hb hby d6_99) rfl ?_
            show Steps p.tables e below (T318.setTop (mkF m 100 #[.val (.ref ax), .val (.ref tx), .val (.int nn), .val (.int (ff + (1 : Int32))), .val (.int (tt ((ff + (1 : Int32))).toNatClampNeg)), .unset, .unset, .unset, .unset, .unset] [(.int (ff + (1 : Int32)))])) _
            refine XS.istore X318.here hx rfl (hb hby d6_100) rfl (l' := #[.val (.ref ax), .val (.ref tx), .val (.int nn), .val (.int (ff + (1 : Int32))), .val (.int (ff + (1 : Int32))), .unset, .unset, .unset, .unset, .unset]) rfl ?_
            show Steps p.tables e below (T318.setTop (mkF m 102 #[.val (.ref ax), .val (.ref tx), .val (.int nn), .val (.int (ff + (1 : Int32))), .val (.int (ff + (1 : Int32))), .unset, .unset, .unset, .unset, .unset] [])) _
            refine XS.iconst X318.here hx rfl (hb hby d6_102) ?_
            show Steps p.tables e below (T318.setTop (mkF m 103 #[.val (.ref ax), .val (.ref tx), .val (.int nn), .val (.int (ff + (1 : Int32))), .val (.int (ff + (1 : Int32))), .unset, .unset, .unset, .unset, .unset] [(.int (1 : Int32))])) _
            refine XS.istore X318.here hx rfl (hb hby d6_103) rfl (l' := #[.val (.ref ax), .val (.ref tx), .val (.int nn), .val (.int (ff + (1 : Int32))), .val (.int (ff + (1 : Int32))), .val (.int (1 : Int32)), .unset, .unset, .unset, .unset]) rfl ?_
            show Steps p.tables e below (T318.setTop (mkF m 105 #[.val (.ref ax), .val (.ref tx), .val (.int nn), .val (.int (ff + (1 : Int32))), .val (.int (ff + (1 : Int32))), .val (.int (1 : Int32)), .unset, .unset, .unset, .unset] [])) _
            refine XS.aloadN X318.here hx rfl (hb hby d6_105) rfl rfl ?_
            show Steps p.tables e below (T318.setTop (mkF m 106 #[.val (.ref ax), .val (.ref tx), .val (.int nn), .val (.int (ff + (1 : Int32))), .val (.int (ff + (1 : Int32))), .val (.int (1 : Int32)), .unset, .unset, .unset, .unset] [(.ref ax)])) _
            exact kq)
          have f321 := (F_word.other W318 (Or.inr (slot_ne (Or.inl (hw _ (List.mem_of_getElem? (i := 19) rfl))) (Or.inl (hw _ (List.mem_of_getElem? (i := 28) rfl))) (by decide) (t := (.array .byte)) (t' := .int) (by decide) (by decide))))
          obtain ⟨T322, X322, e322, st322⟩ := getF X318 hx hZ hown (host := "") (Or.inl (hw _ (List.mem_of_getElem? (i := 18) rfl))) Via.refl e318 f321 (g := (mkF m 106 #[.val (.ref ax), .val (.ref tx), .val (.int nn), .val (.int (ff + (1 : Int32))), .val (.int (ff + (1 : Int32))), .val (.int (1 : Int32)), .unset, .unset, .unset, .unset] [(.ref ax)])) rfl rfl (hb hby d6_106)
          have G323 : Go p e below A0 (T322.setTop (mkF m 109 #[.val (.ref ax), .val (.ref tx), .val (.int nn), .val (.int (ff + (1 : Int32))), .val (.int (ff + (1 : Int32))), .val (.int (1 : Int32)), .unset, .unset, .unset, .unset] [(.ref wb)])) := fun tq kq => G320 tq (st322 _ kq)
          have G324 : Go p e below A0 (T322.setTop (mkF m 121 #[.val (.ref ax), .val (.ref tx), .val (.int nn), .val (.int (ff + (1 : Int32))), .val (.int (ff + (1 : Int32))), .val (.int (1 : Int32)), .val (.ref wb), .val (.int (0 : Int32)), .unset, .unset] [(.int (ff + (1 : Int32))), (.ref tx)])) := fun tq kq => G323 tq (by
            refine XS.astore X322.here hx rfl (hb hby d6_109) rfl rfl (l' := #[.val (.ref ax), .val (.ref tx), .val (.int nn), .val (.int (ff + (1 : Int32))), .val (.int (ff + (1 : Int32))), .val (.int (1 : Int32)), .val (.ref wb), .unset, .unset, .unset]) rfl ?_
            show Steps p.tables e below (T322.setTop (mkF m 111 #[.val (.ref ax), .val (.ref tx), .val (.int nn), .val (.int (ff + (1 : Int32))), .val (.int (ff + (1 : Int32))), .val (.int (1 : Int32)), .val (.ref wb), .unset, .unset, .unset] [])) _
            refine XS.iconst X322.here hx rfl (hb hby d6_111) ?_
            show Steps p.tables e below (T322.setTop (mkF m 112 #[.val (.ref ax), .val (.ref tx), .val (.int nn), .val (.int (ff + (1 : Int32))), .val (.int (ff + (1 : Int32))), .val (.int (1 : Int32)), .val (.ref wb), .unset, .unset, .unset] [(.int (0 : Int32))])) _
            refine XS.istore X322.here hx rfl (hb hby d6_112) rfl (l' := #[.val (.ref ax), .val (.ref tx), .val (.int nn), .val (.int (ff + (1 : Int32))), .val (.int (ff + (1 : Int32))), .val (.int (1 : Int32)), .val (.ref wb), .val (.int (0 : Int32)), .unset, .unset]) rfl ?_
            show Steps p.tables e below (T322.setTop (mkF m 114 #[.val (.ref ax), .val (.ref tx), .val (.int nn), .val (.int (ff + (1 : Int32))), .val (.int (ff + (1 : Int32))), .val (.int (1 : Int32)), .val (.ref wb), .val (.int (0 : Int32)), .unset, .unset] [])) _
            refine XS.iloadN X322.here hx rfl (hb hby d6_114) rfl ?_
            show Steps p.tables e below (T322.setTop (mkF m 115 #[.val (.ref ax), .val (.ref tx), .val (.int nn), .val (.int (ff + (1 : Int32))), .val (.int (ff + (1 : Int32))), .val (.int (1 : Int32)), .val (.ref wb), .val (.int (0 : Int32)), .unset, .unset] [(.int (ff + (1 : Int32)))])) _
            refine XS.iloadN X322.here hx rfl (hb hby d6_115) rfl ?_
            show Steps p.tables e below (T322.setTop (mkF m 116 #[.val (.ref ax), .val (.ref tx), .val (.int nn), .val (.int (ff + (1 : Int32))), .val (.int (ff + (1 : Int32))), .val (.int (1 : Int32)), .val (.ref wb), .val (.int (0 : Int32)), .unset, .unset] [(.int nn), (.int (ff + (1 : Int32)))])) _
            refine XS.icmpNo X322.here hx rfl (hb hby d6_116) rfl (tlt hc304).2.1 ?_
            show Steps p.tables e below (T322.setTop (mkF m 119 #[.val (.ref ax), .val (.ref tx), .val (.int nn), .val (.int (ff + (1 : Int32))), .val (.int (ff + (1 : Int32))), .val (.int (1 : Int32)), .val (.ref wb), .val (.int (0 : Int32)), .unset, .unset] [])) _
            refine XS.aloadN X322.here hx rfl (hb hby d6_119) rfl rfl ?_
            show Steps p.tables e below (T322.setTop (mkF m 120 #[.val (.ref ax), .val (.ref tx), .val (.int nn), .val (.int (ff + (1 : Int32))), .val (.int (ff + (1 : Int32))), .val (.int (1 : Int32)), .val (.ref wb), .val (.int (0 : Int32)), .unset, .unset] [(.ref tx)])) _
            refine XS.iloadN X322.here hx rfl (hb hby d6_120) rfl ?_
            show Steps p.tables e below (T322.setTop (mkF m 121 #[.val (.ref ax), .val (.ref tx), .val (.int nn), .val (.int (ff + (1 : Int32))), .val (.int (ff + (1 : Int32))), .val (.int (1 : Int32)), .val (.ref wb), .val (.int (0 : Int32)), .unset, .unset] [(.int (ff + (1 : Int32))), (.ref tx)])) _
            exact kq)
          have f325 := (At.other W318 hta)
          obtain ⟨cl326, Ar326, q326, S326, M326, H326⟩ := id f325
          have i328 : ¬ (ff + (1 : Int32)) < 0 ∧ (ff + (1 : Int32)) < zt := ⟨zi116, own_ltt hc304 hnz⟩
          have ri328 := htt _ (own_natl i328.1 i328.2)
          have zi328 := own_pos zi116 hc304
          have li328 := own_nlt1 hc304
          have hi327 : ¬ ((ff + (1 : Int32)) < 0 ∨ cl326.slots.size ≤ ((ff + (1 : Int32))).toNatClampNeg) := (inb_of S326 i328)
          have G329 : Go p e below A0 (T322.setTop (mkF m 132 #[.val (.ref ax), .val (.ref tx), .val (.int nn), .val (.int (ff + (1 : Int32))), .val (.int (ff + (1 : Int32))), .val (.int (1 : Int32)), .val (.ref wb), .val (.int (0 : Int32)), .val (.int (tt ((ff + (1 : Int32))).toNatClampNeg)), .unset] [])) := fun tq kq => G324 tq (by
            refine X322.caload hx (j := (ff + (1 : Int32))) (v := (.int (tt ((ff + (1 : Int32))).toNatClampNeg))) (by rw [e322]; exact Ar326.1) (State.isArrayOf_alike hZ.alike Ar326.2.1) Ar326.2.2 hi327 ((H326 _ (S326 ▸ Nat.lt_of_not_le fun y => hi327 (Or.inr y))).trans (congrArg some rfl)) (g := (mkF m 121 #[.val (.ref ax), .val (.ref tx), .val (.int nn), .val (.int (ff + (1 : Int32))), .val (.int (ff + (1 : Int32))), .val (.int (1 : Int32)), .val (.ref wb), .val (.int (0 : Int32)), .unset, .unset] [(.int (ff + (1 : Int32))), (.ref tx)])) rfl rfl (hb hby d6_121) _ ?_
            show Steps p.tables e below (T322.setTop (mkF m 122 #[.val (.ref ax), .val (.ref tx), .val (.int nn), .val (.int (ff + (1 : Int32))), .val (.int (ff + (1 : Int32))), .val (.int (1 : Int32)), .val (.ref wb), .val (.int (0 : Int32)), .unset, .unset] [(.int (tt ((ff + (1 : Int32))).toNatClampNeg))])) _
            refine XS.istore X322.here hx rfl (hb hby d6_122) rfl (l' := #[.val (.ref ax), .val (.ref tx), .val (.int nn), .val (.int (ff + (1 : Int32))), .val (.int (ff + (1 : Int32))), .val (.int (1 : Int32)), .val (.ref wb), .val (.int (0 : Int32)), .val (.int (tt ((ff + (1 : Int32))).toNatClampNeg)), .unset]) rfl ?_
            show Steps p.tables e below (T322.setTop (mkF m 124 #[.val (.ref ax), .val (.ref tx), .val (.int nn), .val (.int (ff + (1 : Int32))), .val (.int (ff + (1 : Int32))), .val (.int (1 : Int32)), .val (.ref wb), .val (.int (0 : Int32)), .val (.int (tt ((ff + (1 : Int32))).toNatClampNeg)), .unset] [])) _
            refine XS.iload X322.here hx rfl (hb hby d6_124) rfl ?_
            show Steps p.tables e below (T322.setTop (mkF m 126 #[.val (.ref ax), .val (.ref tx), .val (.int nn), .val (.int (ff + (1 : Int32))), .val (.int (ff + (1 : Int32))), .val (.int (1 : Int32)), .val (.ref wb), .val (.int (0 : Int32)), .val (.int (tt ((ff + (1 : Int32))).toNatClampNeg)), .unset] [(.int (tt ((ff + (1 : Int32))).toNatClampNeg))])) _
            refine XS.sipush X322.here hx rfl (hb hby d6_126) ?_
            show Steps p.tables e below (T322.setTop (mkF m 129 #[.val (.ref ax), .val (.ref tx), .val (.int nn), .val (.int (ff + (1 : Int32))), .val (.int (ff + (1 : Int32))), .val (.int (1 : Int32)), .val (.ref wb), .val (.int (0 : Int32)), .val (.int (tt ((ff + (1 : Int32))).toNatClampNeg)), .unset] [(.int (128 : Int32)), (.int (tt ((ff + (1 : Int32))).toNatClampNeg))])) _
            refine XS.icmpNo X322.here hx rfl (hb hby d6_129) rfl (tlt ri328.2).2.1 ?_
            show Steps p.tables e below (T322.setTop (mkF m 132 #[.val (.ref ax), .val (.ref tx), .val (.int nn), .val (.int (ff + (1 : Int32))), .val (.int (ff + (1 : Int32))), .val (.int (1 : Int32)), .val (.ref wb), .val (.int (0 : Int32)), .val (.int (tt ((ff + (1 : Int32))).toNatClampNeg)), .unset] [])) _
            exact kq)
          obtain ⟨T330, X330, e330, st330⟩ := getS2 X322 hx hZ hown (host := "") (Or.inl (hw _ (List.mem_of_getElem? (i := 38) rfl))) Via.refl e322 (hSd.ext (hold.wr W318 gax).2) (g := (mkF m 132 #[.val (.ref ax), .val (.ref tx), .val (.int nn), .val (.int (ff + (1 : Int32))), .val (.int (ff + (1 : Int32))), .val (.int (1 : Int32)), .val (.ref wb), .val (.int (0 : Int32)), .val (.int (tt ((ff + (1 : Int32))).toNatClampNeg)), .unset] [])) rfl (hb hby d6_132)
          have G331 : Go p e below A0 (T330.setTop (mkF m 135 #[.val (.ref ax), .val (.ref tx), .val (.int nn), .val (.int (ff + (1 : Int32))), .val (.int (ff + (1 : Int32))), .val (.int (1 : Int32)), .val (.ref wb), .val (.int (0 : Int32)), .val (.int (tt ((ff + (1 : Int32))).toNatClampNeg)), .unset] [(.ref tb)])) := fun tq kq => G329 tq (st330 _ kq)
          have G332 : Go p e below A0 (T330.setTop (mkF m 137 #[.val (.ref ax), .val (.ref tx), .val (.int nn), .val (.int (ff + (1 : Int32))), .val (.int (ff + (1 : Int32))), .val (.int (1 : Int32)), .val (.ref wb), .val (.int (0 : Int32)), .val (.int (tt ((ff + (1 : Int32))).toNatClampNeg)), .unset] [(.int (tt ((ff + (1 : Int32))).toNatClampNeg)), (.ref tb)])) := fun tq kq => G331 tq (by
            refine XS.iload X330.here hx rfl (hb hby d6_135) rfl ?_
            show Steps p.tables e below (T330.setTop (mkF m 137 #[.val (.ref ax), .val (.ref tx), .val (.int nn), .val (.int (ff + (1 : Int32))), .val (.int (ff + (1 : Int32))), .val (.int (1 : Int32)), .val (.ref wb), .val (.int (0 : Int32)), .val (.int (tt ((ff + (1 : Int32))).toNatClampNeg)), .unset] [(.int (tt ((ff + (1 : Int32))).toNatClampNeg)), (.ref tb)])) _
            exact kq)
          have f333 := (hAd0.other W318 (hold.ne hAd.lt gax))
          obtain ⟨cl334, Ar334, q334, S334, M334, H334⟩ := id f333
          have hi335 : ¬ ((tt ((ff + (1 : Int32))).toNatClampNeg) < 0 ∨ cl334.slots.size ≤ ((tt ((ff + (1 : Int32))).toNatClampNeg)).toNatClampNeg) := (inb_of S334 ri328)
          have G336 : Go p e below A0 (T330.setTop (mkF m 152 #[.val (.ref ax), .val (.ref tx), .val (.int nn), .val (.int (ff + (1 : Int32))), .val (.int (ff + (1 : Int32))), .val (.int (1 : Int32)), .val (.ref wb), .val (.int (0 : Int32)), .val (.int (tt ((ff + (1 : Int32))).toNatClampNeg)), .val (.int (own_a (tt ((ff + (1 : Int32))).toNatClampNeg)))] [(.ref wb), (.int (0 : Int32))])) := fun tq kq => G332 tq (by
            refine X330.baloadBytes hx (j := (tt ((ff + (1 : Int32))).toNatClampNeg)) (v := (.int (own_a (tt ((ff + (1 : Int32))).toNatClampNeg)))) (by rw [e330]; exact Ar334.1) (State.isArrayOf_alike hZ.alike Ar334.2.1) Ar334.2.2 hi335 ((H334 _ (S334 ▸ Nat.lt_of_not_le fun y => hi335 (Or.inr y))).trans (congrArg some (congrArg (fun q => Value.int (own_a q)) (own_back ri328.1)))) (g := (mkF m 137 #[.val (.ref ax), .val (.ref tx), .val (.int nn), .val (.int (ff + (1 : Int32))), .val (.int (ff + (1 : Int32))), .val (.int (1 : Int32)), .val (.ref wb), .val (.int (0 : Int32)), .val (.int (tt ((ff + (1 : Int32))).toNatClampNeg)), .unset] [(.int (tt ((ff + (1 : Int32))).toNatClampNeg)), (.ref tb)])) rfl rfl (hb hby d6_137) _ ?_
            show Steps p.tables e below (T330.setTop (mkF m 138 #[.val (.ref ax), .val (.ref tx), .val (.int nn), .val (.int (ff + (1 : Int32))), .val (.int (ff + (1 : Int32))), .val (.int (1 : Int32)), .val (.ref wb), .val (.int (0 : Int32)), .val (.int (tt ((ff + (1 : Int32))).toNatClampNeg)), .unset] [(.int (own_a (tt ((ff + (1 : Int32))).toNatClampNeg)))])) _
            refine XS.istore X330.here hx rfl (hb hby d6_138) rfl (l' := #[.val (.ref ax), .val (.ref tx), .val (.int nn), .val (.int (ff + (1 : Int32))), .val (.int (ff + (1 : Int32))), .val (.int (1 : Int32)), .val (.ref wb), .val (.int (0 : Int32)), .val (.int (tt ((ff + (1 : Int32))).toNatClampNeg)), .val (.int (own_a (tt ((ff + (1 : Int32))).toNatClampNeg)))]) rfl ?_
            show Steps p.tables e below (T330.setTop (mkF m 140 #[.val (.ref ax), .val (.ref tx), .val (.int nn), .val (.int (ff + (1 : Int32))), .val (.int (ff + (1 : Int32))), .val (.int (1 : Int32)), .val (.ref wb), .val (.int (0 : Int32)), .val (.int (tt ((ff + (1 : Int32))).toNatClampNeg)), .val (.int (own_a (tt ((ff + (1 : Int32))).toNatClampNeg)))] [])) _
            refine XS.iload X330.here hx rfl (hb hby d6_140) rfl ?_
            show Steps p.tables e below (T330.setTop (mkF m 142 #[.val (.ref ax), .val (.ref tx), .val (.int nn), .val (.int (ff + (1 : Int32))), .val (.int (ff + (1 : Int32))), .val (.int (1 : Int32)), .val (.ref wb), .val (.int (0 : Int32)), .val (.int (tt ((ff + (1 : Int32))).toNatClampNeg)), .val (.int (own_a (tt ((ff + (1 : Int32))).toNatClampNeg)))] [(.int (own_a (tt ((ff + (1 : Int32))).toNatClampNeg)))])) _
            refine XS.ifYes X330.here hx rfl (pc0 := 142) (pc' := 148) rfl (hb hby d6_142) rfl ((if0 _ _).trans (feq (own_a1 hc316)).2) (by decide) (by decide) ?_
            show Steps p.tables e below (T330.setTop (mkF m 148 #[.val (.ref ax), .val (.ref tx), .val (.int nn), .val (.int (ff + (1 : Int32))), .val (.int (ff + (1 : Int32))), .val (.int (1 : Int32)), .val (.ref wb), .val (.int (0 : Int32)), .val (.int (tt ((ff + (1 : Int32))).toNatClampNeg)), .val (.int (own_a (tt ((ff + (1 : Int32))).toNatClampNeg)))] [])) _
            refine XS.iload X330.here hx rfl (hb hby d6_148) rfl ?_
            show Steps p.tables e below (T330.setTop (mkF m 150 #[.val (.ref ax), .val (.ref tx), .val (.int nn), .val (.int (ff + (1 : Int32))), .val (.int (ff + (1 : Int32))), .val (.int (1 : Int32)), .val (.ref wb), .val (.int (0 : Int32)), .val (.int (tt ((ff + (1 : Int32))).toNatClampNeg)), .val (.int (own_a (tt ((ff + (1 : Int32))).toNatClampNeg)))] [(.int (0 : Int32))])) _
            refine XS.aload X330.here hx rfl (hb hby d6_150) rfl rfl ?_
            show Steps p.tables e below (T330.setTop (mkF m 152 #[.val (.ref ax), .val (.ref tx), .val (.int nn), .val (.int (ff + (1 : Int32))), .val (.int (ff + (1 : Int32))), .val (.int (1 : Int32)), .val (.ref wb), .val (.int (0 : Int32)), .val (.int (tt ((ff + (1 : Int32))).toNatClampNeg)), .val (.int (own_a (tt ((ff + (1 : Int32))).toNatClampNeg)))] [(.ref wb), (.int (0 : Int32))])) _
            exact kq)
          have f337 := (Aw.other W318 (Ne.symm haw))
          obtain ⟨cl338, Ar338, q338, S338, M338, H338⟩ := id f337
          have G339 : Go p e below A0 (T330.setTop (mkF m 176 #[.val (.ref ax), .val (.ref tx), .val (.int nn), .val (.int (ff + (1 : Int32))), .val (.int (ff + (1 : Int32))), .val (.int (1 : Int32)), .val (.ref wb), .val (.int (1 : Int32)), .val (.int (tt ((ff + (1 : Int32))).toNatClampNeg)), .val (.int (own_a (tt ((ff + (1 : Int32))).toNatClampNeg)))] [(.int (own_a (tt ((ff + (1 : Int32))).toNatClampNeg))), (.int (0 : Int32)), (.ref wb)])) := fun tq kq => G336 tq (by
            refine X330.arraylength hx (by rw [e330]; exact Ar338.1) (State.isArrayOf_alike hZ.alike Ar338.2.1) (g := (mkF m 152 #[.val (.ref ax), .val (.ref tx), .val (.int nn), .val (.int (ff + (1 : Int32))), .val (.int (ff + (1 : Int32))), .val (.int (1 : Int32)), .val (.ref wb), .val (.int (0 : Int32)), .val (.int (tt ((ff + (1 : Int32))).toNatClampNeg)), .val (.int (own_a (tt ((ff + (1 : Int32))).toNatClampNeg)))] [(.ref wb), (.int (0 : Int32))])) rfl rfl (hb hby d6_152) _ ?_
            rw [len_of S338 M338]
            show Steps p.tables e below (T330.setTop (mkF m 153 #[.val (.ref ax), .val (.ref tx), .val (.int nn), .val (.int (ff + (1 : Int32))), .val (.int (ff + (1 : Int32))), .val (.int (1 : Int32)), .val (.ref wb), .val (.int (0 : Int32)), .val (.int (tt ((ff + (1 : Int32))).toNatClampNeg)), .val (.int (own_a (tt ((ff + (1 : Int32))).toNatClampNeg)))] [(.int (64 : Int32)), (.int (0 : Int32))])) _
            refine XS.icmpYes X330.here hx rfl (pc0 := 153) (pc' := 167) rfl (hb hby d6_153) rfl (by decide) (by decide) (by decide) ?_
            show Steps p.tables e below (T330.setTop (mkF m 167 #[.val (.ref ax), .val (.ref tx), .val (.int nn), .val (.int (ff + (1 : Int32))), .val (.int (ff + (1 : Int32))), .val (.int (1 : Int32)), .val (.ref wb), .val (.int (0 : Int32)), .val (.int (tt ((ff + (1 : Int32))).toNatClampNeg)), .val (.int (own_a (tt ((ff + (1 : Int32))).toNatClampNeg)))] [])) _
            refine XS.aload X330.here hx rfl (hb hby d6_167) rfl rfl ?_
            show Steps p.tables e below (T330.setTop (mkF m 169 #[.val (.ref ax), .val (.ref tx), .val (.int nn), .val (.int (ff + (1 : Int32))), .val (.int (ff + (1 : Int32))), .val (.int (1 : Int32)), .val (.ref wb), .val (.int (0 : Int32)), .val (.int (tt ((ff + (1 : Int32))).toNatClampNeg)), .val (.int (own_a (tt ((ff + (1 : Int32))).toNatClampNeg)))] [(.ref wb)])) _
            refine XS.iload X330.here hx rfl (hb hby d6_169) rfl ?_
            show Steps p.tables e below (T330.setTop (mkF m 171 #[.val (.ref ax), .val (.ref tx), .val (.int nn), .val (.int (ff + (1 : Int32))), .val (.int (ff + (1 : Int32))), .val (.int (1 : Int32)), .val (.ref wb), .val (.int (0 : Int32)), .val (.int (tt ((ff + (1 : Int32))).toNatClampNeg)), .val (.int (own_a (tt ((ff + (1 : Int32))).toNatClampNeg)))] [(.int (0 : Int32)), (.ref wb)])) _
            refine XS.iinc X330.here hx rfl (hb hby d6_171) rfl (l' := #[.val (.ref ax), .val (.ref tx), .val (.int nn), .val (.int (ff + (1 : Int32))), .val (.int (ff + (1 : Int32))), .val (.int (1 : Int32)), .val (.ref wb), .val (.int ((0 : Int32) + (1 : Int32))), .val (.int (tt ((ff + (1 : Int32))).toNatClampNeg)), .val (.int (own_a (tt ((ff + (1 : Int32))).toNatClampNeg)))]) rfl ?_
            show Steps p.tables e below (T330.setTop (mkF m 174 #[.val (.ref ax), .val (.ref tx), .val (.int nn), .val (.int (ff + (1 : Int32))), .val (.int (ff + (1 : Int32))), .val (.int (1 : Int32)), .val (.ref wb), .val (.int ((0 : Int32) + (1 : Int32))), .val (.int (tt ((ff + (1 : Int32))).toNatClampNeg)), .val (.int (own_a (tt ((ff + (1 : Int32))).toNatClampNeg)))] [(.int (0 : Int32)), (.ref wb)])) _
            rw [show ((0 : Int32) + (1 : Int32)) = (1 : Int32) from (by decide : ((0 : Int32) + (1 : Int32)) = (1 : Int32))]
            show Steps p.tables e below (T330.setTop (mkF m 174 #[.val (.ref ax), .val (.ref tx), .val (.int nn), .val (.int (ff + (1 : Int32))), .val (.int (ff + (1 : Int32))), .val (.int (1 : Int32)), .val (.ref wb), .val (.int (1 : Int32)), .val (.int (tt ((ff + (1 : Int32))).toNatClampNeg)), .val (.int (own_a (tt ((ff + (1 : Int32))).toNatClampNeg)))] [(.int (0 : Int32)), (.ref wb)])) _
            refine XS.iload X330.here hx rfl (hb hby d6_174) rfl ?_
            show Steps p.tables e below (T330.setTop (mkF m 176 #[.val (.ref ax), .val (.ref tx), .val (.int nn), .val (.int (ff + (1 : Int32))), .val (.int (ff + (1 : Int32))), .val (.int (1 : Int32)), .val (.ref wb), .val (.int (1 : Int32)), .val (.int (tt ((ff + (1 : Int32))).toNatClampNeg)), .val (.int (own_a (tt ((ff + (1 : Int32))).toNatClampNeg)))] [(.int (own_a (tt ((ff + (1 : Int32))).toNatClampNeg))), (.int (0 : Int32)), (.ref wb)])) _
            exact kq)
          obtain ⟨cl340, Ar340, q340, S340, M340, H340⟩ := id f337
          have hi341 : ¬ ((0 : Int32) < 0 ∨ cl340.slots.size ≤ ((0 : Int32)).toNatClampNeg) := (inb_of S340 ⟨by decide, by decide⟩)
          obtain ⟨T342, h342, X342, e342, W342, st342⟩ := stB X330 hx hZ e330 Ar340 (j := (0 : Int32)) hi341 (g := (mkF m 176 #[.val (.ref ax), .val (.ref tx), .val (.int nn), .val (.int (ff + (1 : Int32))), .val (.int (ff + (1 : Int32))), .val (.int (1 : Int32)), .val (.ref wb), .val (.int (1 : Int32)), .val (.int (tt ((ff + (1 : Int32))).toNatClampNeg)), .val (.int (own_a (tt ((ff + (1 : Int32))).toNatClampNeg)))] [(.int (own_a (tt ((ff + (1 : Int32))).toNatClampNeg))), (.int (0 : Int32)), (.ref wb)])) rfl rfl (hb hby d6_176)
          rw [show nar .byte (own_a (tt ((ff + (1 : Int32))).toNatClampNeg)) = (own_a (tt ((ff + (1 : Int32))).toNatClampNeg)) from own_naB _] at W342
          have N342 := Fr.snoc X342 N318 gwb
          have V342 : Af Z h342 wb kw .byte (64 : Int32) (fun i => .int ((own_up gw 0 (own_a (tt ((ff + (1 : Int32))).toNatClampNeg))) i)) := (Af.set Ar340 q340 S340 M340 H340 W342 hi341).fn (fun j _ => own_upf _ _ _ _ rfl j)
          have G343 : Go p e below A0 (T342.setTop (mkF m 177 #[.val (.ref ax), .val (.ref tx), .val (.int nn), .val (.int (ff + (1 : Int32))), .val (.int (ff + (1 : Int32))), .val (.int (1 : Int32)), .val (.ref wb), .val (.int (1 : Int32)), .val (.int (tt ((ff + (1 : Int32))).toNatClampNeg)), .val (.int (own_a (tt ((ff + (1 : Int32))).toNatClampNeg)))] [])) := fun tq kq => G339 tq (st342 _ kq)
          have G344 : Go p e below A0 (T342.setTop (mkF m 116 #[.val (.ref ax), .val (.ref tx), .val (.int nn), .val (.int ((ff + (1 : Int32)) + (1 : Int32))), .val (.int (ff + (1 : Int32))), .val (.int (1 : Int32)), .val (.ref wb), .val (.int (1 : Int32)), .val (.int (tt ((ff + (1 : Int32))).toNatClampNeg)), .val (.int (own_a (tt ((ff + (1 : Int32))).toNatClampNeg)))] [(.int nn), (.int ((ff + (1 : Int32)) + (1 : Int32)))])) := fun tq kq => G343 tq (by
            refine XS.iinc X342.here hx rfl (hb hby d6_177) rfl (l' := #[.val (.ref ax), .val (.ref tx), .val (.int nn), .val (.int ((ff + (1 : Int32)) + (1 : Int32))), .val (.int (ff + (1 : Int32))), .val (.int (1 : Int32)), .val (.ref wb), .val (.int (1 : Int32)), .val (.int (tt ((ff + (1 : Int32))).toNatClampNeg)), .val (.int (own_a (tt ((ff + (1 : Int32))).toNatClampNeg)))]) rfl ?_
            show Steps p.tables e below (T342.setTop (mkF m 180 #[.val (.ref ax), .val (.ref tx), .val (.int nn), .val (.int ((ff + (1 : Int32)) + (1 : Int32))), .val (.int (ff + (1 : Int32))), .val (.int (1 : Int32)), .val (.ref wb), .val (.int (1 : Int32)), .val (.int (tt ((ff + (1 : Int32))).toNatClampNeg)), .val (.int (own_a (tt ((ff + (1 : Int32))).toNatClampNeg)))] [])) _
            refine XS.goto X342.here hx rfl (pc0 := 180) (pc' := 213) rfl (hb hby d6_180) (by decide) (by decide) ?_
            show Steps p.tables e below (T342.setTop (mkF m 213 #[.val (.ref ax), .val (.ref tx), .val (.int nn), .val (.int ((ff + (1 : Int32)) + (1 : Int32))), .val (.int (ff + (1 : Int32))), .val (.int (1 : Int32)), .val (.ref wb), .val (.int (1 : Int32)), .val (.int (tt ((ff + (1 : Int32))).toNatClampNeg)), .val (.int (own_a (tt ((ff + (1 : Int32))).toNatClampNeg)))] [])) _
            refine XS.goto X342.here hx rfl (pc0 := 213) (pc' := 114) rfl (hb hby d6_213) (by decide) (by decide) ?_
            show Steps p.tables e below (T342.setTop (mkF m 114 #[.val (.ref ax), .val (.ref tx), .val (.int nn), .val (.int ((ff + (1 : Int32)) + (1 : Int32))), .val (.int (ff + (1 : Int32))), .val (.int (1 : Int32)), .val (.ref wb), .val (.int (1 : Int32)), .val (.int (tt ((ff + (1 : Int32))).toNatClampNeg)), .val (.int (own_a (tt ((ff + (1 : Int32))).toNatClampNeg)))] [])) _
            refine XS.iloadN X342.here hx rfl (hb hby d6_114) rfl ?_
            show Steps p.tables e below (T342.setTop (mkF m 115 #[.val (.ref ax), .val (.ref tx), .val (.int nn), .val (.int ((ff + (1 : Int32)) + (1 : Int32))), .val (.int (ff + (1 : Int32))), .val (.int (1 : Int32)), .val (.ref wb), .val (.int (1 : Int32)), .val (.int (tt ((ff + (1 : Int32))).toNatClampNeg)), .val (.int (own_a (tt ((ff + (1 : Int32))).toNatClampNeg)))] [(.int ((ff + (1 : Int32)) + (1 : Int32)))])) _
            refine XS.iloadN X342.here hx rfl (hb hby d6_115) rfl ?_
            show Steps p.tables e below (T342.setTop (mkF m 116 #[.val (.ref ax), .val (.ref tx), .val (.int nn), .val (.int ((ff + (1 : Int32)) + (1 : Int32))), .val (.int (ff + (1 : Int32))), .val (.int (1 : Int32)), .val (.ref wb), .val (.int (1 : Int32)), .val (.int (tt ((ff + (1 : Int32))).toNatClampNeg)), .val (.int (own_a (tt ((ff + (1 : Int32))).toNatClampNeg)))] [(.int nn), (.int ((ff + (1 : Int32)) + (1 : Int32)))])) _
            exact kq)
          by_cases hc345 : ((ff + (1 : Int32)) + (1 : Int32)) < nn
          · have G346 : Go p e below A0 (T342.setTop (mkF m 121 #[.val (.ref ax), .val (.ref tx), .val (.int nn), .val (.int ((ff + (1 : Int32)) + (1 : Int32))), .val (.int (ff + (1 : Int32))), .val (.int (1 : Int32)), .val (.ref wb), .val (.int (1 : Int32)), .val (.int (tt ((ff + (1 : Int32))).toNatClampNeg)), .val (.int (own_a (tt ((ff + (1 : Int32))).toNatClampNeg)))] [(.int ((ff + (1 : Int32)) + (1 : Int32))), (.ref tx)])) := fun tq kq => G344 tq (by
              refine XS.icmpNo X342.here hx rfl (hb hby d6_116) rfl (tlt hc345).2.1 ?_
              show Steps p.tables e below (T342.setTop (mkF m 119 #[.val (.ref ax), .val (.ref tx), .val (.int nn), .val (.int ((ff + (1 : Int32)) + (1 : Int32))), .val (.int (ff + (1 : Int32))), .val (.int (1 : Int32)), .val (.ref wb), .val (.int (1 : Int32)), .val (.int (tt ((ff + (1 : Int32))).toNatClampNeg)), .val (.int (own_a (tt ((ff + (1 : Int32))).toNatClampNeg)))] [])) _
              refine XS.aloadN X342.here hx rfl (hb hby d6_119) rfl rfl ?_
              show Steps p.tables e below (T342.setTop (mkF m 120 #[.val (.ref ax), .val (.ref tx), .val (.int nn), .val (.int ((ff + (1 : Int32)) + (1 : Int32))), .val (.int (ff + (1 : Int32))), .val (.int (1 : Int32)), .val (.ref wb), .val (.int (1 : Int32)), .val (.int (tt ((ff + (1 : Int32))).toNatClampNeg)), .val (.int (own_a (tt ((ff + (1 : Int32))).toNatClampNeg)))] [(.ref tx)])) _
              refine XS.iloadN X342.here hx rfl (hb hby d6_120) rfl ?_
              show Steps p.tables e below (T342.setTop (mkF m 121 #[.val (.ref ax), .val (.ref tx), .val (.int nn), .val (.int ((ff + (1 : Int32)) + (1 : Int32))), .val (.int (ff + (1 : Int32))), .val (.int (1 : Int32)), .val (.ref wb), .val (.int (1 : Int32)), .val (.int (tt ((ff + (1 : Int32))).toNatClampNeg)), .val (.int (own_a (tt ((ff + (1 : Int32))).toNatClampNeg)))] [(.int ((ff + (1 : Int32)) + (1 : Int32))), (.ref tx)])) _
              exact kq)
            have f347 := (f325.other W342 htw)
            obtain ⟨cl348, Ar348, q348, S348, M348, H348⟩ := id f347
            have i350 : ¬ ((ff + (1 : Int32)) + (1 : Int32)) < 0 ∧ ((ff + (1 : Int32)) + (1 : Int32)) < zt := ⟨zi328, own_ltt hc345 hnz⟩
            have ri350 := htt _ (own_natl i350.1 i350.2)
            have zi350 := own_pos zi328 hc345
            have li350 := own_nlt1 hc345
            have mi350 := own_lim hz hc112 hn3
            have hi349 : ¬ (((ff + (1 : Int32)) + (1 : Int32)) < 0 ∨ cl348.slots.size ≤ (((ff + (1 : Int32)) + (1 : Int32))).toNatClampNeg) := (inb_of S348 i350)
            have G351 : Go p e below A0 (T342.setTop (mkF m 132 #[.val (.ref ax), .val (.ref tx), .val (.int nn), .val (.int ((ff + (1 : Int32)) + (1 : Int32))), .val (.int (ff + (1 : Int32))), .val (.int (1 : Int32)), .val (.ref wb), .val (.int (1 : Int32)), .val (.int (tt (((ff + (1 : Int32)) + (1 : Int32))).toNatClampNeg)), .val (.int (own_a (tt ((ff + (1 : Int32))).toNatClampNeg)))] [])) := fun tq kq => G346 tq (by
              refine X342.caload hx (j := ((ff + (1 : Int32)) + (1 : Int32))) (v := (.int (tt (((ff + (1 : Int32)) + (1 : Int32))).toNatClampNeg))) (by rw [e342]; exact Ar348.1) (State.isArrayOf_alike hZ.alike Ar348.2.1) Ar348.2.2 hi349 ((H348 _ (S348 ▸ Nat.lt_of_not_le fun y => hi349 (Or.inr y))).trans (congrArg some rfl)) (g := (mkF m 121 #[.val (.ref ax), .val (.ref tx), .val (.int nn), .val (.int ((ff + (1 : Int32)) + (1 : Int32))), .val (.int (ff + (1 : Int32))), .val (.int (1 : Int32)), .val (.ref wb), .val (.int (1 : Int32)), .val (.int (tt ((ff + (1 : Int32))).toNatClampNeg)), .val (.int (own_a (tt ((ff + (1 : Int32))).toNatClampNeg)))] [(.int ((ff + (1 : Int32)) + (1 : Int32))), (.ref tx)])) rfl rfl (hb hby d6_121) _ ?_
              show Steps p.tables e below (T342.setTop (mkF m 122 #[.val (.ref ax), .val (.ref tx), .val (.int nn), .val (.int ((ff + (1 : Int32)) + (1 : Int32))), .val (.int (ff + (1 : Int32))), .val (.int (1 : Int32)), .val (.ref wb), .val (.int (1 : Int32)), .val (.int (tt ((ff + (1 : Int32))).toNatClampNeg)), .val (.int (own_a (tt ((ff + (1 : Int32))).toNatClampNeg)))] [(.int (tt (((ff + (1 : Int32)) + (1 : Int32))).toNatClampNeg))])) _
              refine XS.istore X342.here hx rfl (hb hby d6_122) rfl (l' := #[.val (.ref ax), .val (.ref tx), .val (.int nn), .val (.int ((ff + (1 : Int32)) + (1 : Int32))), .val (.int (ff + (1 : Int32))), .val (.int (1 : Int32)), .val (.ref wb), .val (.int (1 : Int32)), .val (.int (tt (((ff + (1 : Int32)) + (1 : Int32))).toNatClampNeg)), .val (.int (own_a (tt ((ff + (1 : Int32))).toNatClampNeg)))]) rfl ?_
              show Steps p.tables e below (T342.setTop (mkF m 124 #[.val (.ref ax), .val (.ref tx), .val (.int nn), .val (.int ((ff + (1 : Int32)) + (1 : Int32))), .val (.int (ff + (1 : Int32))), .val (.int (1 : Int32)), .val (.ref wb), .val (.int (1 : Int32)), .val (.int (tt (((ff + (1 : Int32)) + (1 : Int32))).toNatClampNeg)), .val (.int (own_a (tt ((ff + (1 : Int32))).toNatClampNeg)))] [])) _
              refine XS.iload X342.here hx rfl (hb hby d6_124) rfl ?_
              show Steps p.tables e below (T342.setTop (mkF m 126 #[.val (.ref ax), .val (.ref tx), .val (.int nn), .val (.int ((ff + (1 : Int32)) + (1 : Int32))), .val (.int (ff + (1 : Int32))), .val (.int (1 : Int32)), .val (.ref wb), .val (.int (1 : Int32)), .val (.int (tt (((ff + (1 : Int32)) + (1 : Int32))).toNatClampNeg)), .val (.int (own_a (tt ((ff + (1 : Int32))).toNatClampNeg)))] [(.int (tt (((ff + (1 : Int32)) + (1 : Int32))).toNatClampNeg))])) _
              refine XS.sipush X342.here hx rfl (hb hby d6_126) ?_
              show Steps p.tables e below (T342.setTop (mkF m 129 #[.val (.ref ax), .val (.ref tx), .val (.int nn), .val (.int ((ff + (1 : Int32)) + (1 : Int32))), .val (.int (ff + (1 : Int32))), .val (.int (1 : Int32)), .val (.ref wb), .val (.int (1 : Int32)), .val (.int (tt (((ff + (1 : Int32)) + (1 : Int32))).toNatClampNeg)), .val (.int (own_a (tt ((ff + (1 : Int32))).toNatClampNeg)))] [(.int (128 : Int32)), (.int (tt (((ff + (1 : Int32)) + (1 : Int32))).toNatClampNeg))])) _
              refine XS.icmpNo X342.here hx rfl (hb hby d6_129) rfl (tlt ri350.2).2.1 ?_
              show Steps p.tables e below (T342.setTop (mkF m 132 #[.val (.ref ax), .val (.ref tx), .val (.int nn), .val (.int ((ff + (1 : Int32)) + (1 : Int32))), .val (.int (ff + (1 : Int32))), .val (.int (1 : Int32)), .val (.ref wb), .val (.int (1 : Int32)), .val (.int (tt (((ff + (1 : Int32)) + (1 : Int32))).toNatClampNeg)), .val (.int (own_a (tt ((ff + (1 : Int32))).toNatClampNeg)))] [])) _
              exact kq)
            obtain ⟨T352, X352, e352, st352⟩ := getS2 X342 hx hZ hown (host := "") (Or.inl (hw _ (List.mem_of_getElem? (i := 38) rfl))) Via.refl e342 (hSd.ext ((hold.wr W318 gax).wr W342 gwb).2) (g := (mkF m 132 #[.val (.ref ax), .val (.ref tx), .val (.int nn), .val (.int ((ff + (1 : Int32)) + (1 : Int32))), .val (.int (ff + (1 : Int32))), .val (.int (1 : Int32)), .val (.ref wb), .val (.int (1 : Int32)), .val (.int (tt (((ff + (1 : Int32)) + (1 : Int32))).toNatClampNeg)), .val (.int (own_a (tt ((ff + (1 : Int32))).toNatClampNeg)))] [])) rfl (hb hby d6_132)
            have G353 : Go p e below A0 (T352.setTop (mkF m 135 #[.val (.ref ax), .val (.ref tx), .val (.int nn), .val (.int ((ff + (1 : Int32)) + (1 : Int32))), .val (.int (ff + (1 : Int32))), .val (.int (1 : Int32)), .val (.ref wb), .val (.int (1 : Int32)), .val (.int (tt (((ff + (1 : Int32)) + (1 : Int32))).toNatClampNeg)), .val (.int (own_a (tt ((ff + (1 : Int32))).toNatClampNeg)))] [(.ref tb)])) := fun tq kq => G351 tq (st352 _ kq)
            have G354 : Go p e below A0 (T352.setTop (mkF m 137 #[.val (.ref ax), .val (.ref tx), .val (.int nn), .val (.int ((ff + (1 : Int32)) + (1 : Int32))), .val (.int (ff + (1 : Int32))), .val (.int (1 : Int32)), .val (.ref wb), .val (.int (1 : Int32)), .val (.int (tt (((ff + (1 : Int32)) + (1 : Int32))).toNatClampNeg)), .val (.int (own_a (tt ((ff + (1 : Int32))).toNatClampNeg)))] [(.int (tt (((ff + (1 : Int32)) + (1 : Int32))).toNatClampNeg)), (.ref tb)])) := fun tq kq => G353 tq (by
              refine XS.iload X352.here hx rfl (hb hby d6_135) rfl ?_
              show Steps p.tables e below (T352.setTop (mkF m 137 #[.val (.ref ax), .val (.ref tx), .val (.int nn), .val (.int ((ff + (1 : Int32)) + (1 : Int32))), .val (.int (ff + (1 : Int32))), .val (.int (1 : Int32)), .val (.ref wb), .val (.int (1 : Int32)), .val (.int (tt (((ff + (1 : Int32)) + (1 : Int32))).toNatClampNeg)), .val (.int (own_a (tt ((ff + (1 : Int32))).toNatClampNeg)))] [(.int (tt (((ff + (1 : Int32)) + (1 : Int32))).toNatClampNeg)), (.ref tb)])) _
              exact kq)
            have f355 := (f333.other W342 (hold.ne hAd.lt gwb))
            obtain ⟨cl356, Ar356, q356, S356, M356, H356⟩ := id f355
            have hi357 : ¬ ((tt (((ff + (1 : Int32)) + (1 : Int32))).toNatClampNeg) < 0 ∨ cl356.slots.size ≤ ((tt (((ff + (1 : Int32)) + (1 : Int32))).toNatClampNeg)).toNatClampNeg) := (inb_of S356 ri350)
            have G358 : Go p e below A0 (T352.setTop (mkF m 142 #[.val (.ref ax), .val (.ref tx), .val (.int nn), .val (.int ((ff + (1 : Int32)) + (1 : Int32))), .val (.int (ff + (1 : Int32))), .val (.int (1 : Int32)), .val (.ref wb), .val (.int (1 : Int32)), .val (.int (tt (((ff + (1 : Int32)) + (1 : Int32))).toNatClampNeg)), .val (.int (own_a (tt (((ff + (1 : Int32)) + (1 : Int32))).toNatClampNeg)))] [(.int (own_a (tt (((ff + (1 : Int32)) + (1 : Int32))).toNatClampNeg)))])) := fun tq kq => G354 tq (by
              refine X352.baloadBytes hx (j := (tt (((ff + (1 : Int32)) + (1 : Int32))).toNatClampNeg)) (v := (.int (own_a (tt (((ff + (1 : Int32)) + (1 : Int32))).toNatClampNeg)))) (by rw [e352]; exact Ar356.1) (State.isArrayOf_alike hZ.alike Ar356.2.1) Ar356.2.2 hi357 ((H356 _ (S356 ▸ Nat.lt_of_not_le fun y => hi357 (Or.inr y))).trans (congrArg some (congrArg (fun q => Value.int (own_a q)) (own_back ri350.1)))) (g := (mkF m 137 #[.val (.ref ax), .val (.ref tx), .val (.int nn), .val (.int ((ff + (1 : Int32)) + (1 : Int32))), .val (.int (ff + (1 : Int32))), .val (.int (1 : Int32)), .val (.ref wb), .val (.int (1 : Int32)), .val (.int (tt (((ff + (1 : Int32)) + (1 : Int32))).toNatClampNeg)), .val (.int (own_a (tt ((ff + (1 : Int32))).toNatClampNeg)))] [(.int (tt (((ff + (1 : Int32)) + (1 : Int32))).toNatClampNeg)), (.ref tb)])) rfl rfl (hb hby d6_137) _ ?_
              show Steps p.tables e below (T352.setTop (mkF m 138 #[.val (.ref ax), .val (.ref tx), .val (.int nn), .val (.int ((ff + (1 : Int32)) + (1 : Int32))), .val (.int (ff + (1 : Int32))), .val (.int (1 : Int32)), .val (.ref wb), .val (.int (1 : Int32)), .val (.int (tt (((ff + (1 : Int32)) + (1 : Int32))).toNatClampNeg)), .val (.int (own_a (tt ((ff + (1 : Int32))).toNatClampNeg)))] [(.int (own_a (tt (((ff + (1 : Int32)) + (1 : Int32))).toNatClampNeg)))])) _
              refine XS.istore X352.here hx rfl (hb hby d6_138) rfl (l' := #[.val (.ref ax), .val (.ref tx), .val (.int nn), .val (.int ((ff + (1 : Int32)) + (1 : Int32))), .val (.int (ff + (1 : Int32))), .val (.int (1 : Int32)), .val (.ref wb), .val (.int (1 : Int32)), .val (.int (tt (((ff + (1 : Int32)) + (1 : Int32))).toNatClampNeg)), .val (.int (own_a (tt (((ff + (1 : Int32)) + (1 : Int32))).toNatClampNeg)))]) rfl ?_
              show Steps p.tables e below (T352.setTop (mkF m 140 #[.val (.ref ax), .val (.ref tx), .val (.int nn), .val (.int ((ff + (1 : Int32)) + (1 : Int32))), .val (.int (ff + (1 : Int32))), .val (.int (1 : Int32)), .val (.ref wb), .val (.int (1 : Int32)), .val (.int (tt (((ff + (1 : Int32)) + (1 : Int32))).toNatClampNeg)), .val (.int (own_a (tt (((ff + (1 : Int32)) + (1 : Int32))).toNatClampNeg)))] [])) _
              refine XS.iload X352.here hx rfl (hb hby d6_140) rfl ?_
              show Steps p.tables e below (T352.setTop (mkF m 142 #[.val (.ref ax), .val (.ref tx), .val (.int nn), .val (.int ((ff + (1 : Int32)) + (1 : Int32))), .val (.int (ff + (1 : Int32))), .val (.int (1 : Int32)), .val (.ref wb), .val (.int (1 : Int32)), .val (.int (tt (((ff + (1 : Int32)) + (1 : Int32))).toNatClampNeg)), .val (.int (own_a (tt (((ff + (1 : Int32)) + (1 : Int32))).toNatClampNeg)))] [(.int (own_a (tt (((ff + (1 : Int32)) + (1 : Int32))).toNatClampNeg)))])) _
              exact kq)
            by_cases hc359 : (own_W (tt (((ff + (1 : Int32)) + (1 : Int32))).toNatClampNeg))
            · have G360 : Go p e below A0 (T352.setTop (mkF m 152 #[.val (.ref ax), .val (.ref tx), .val (.int nn), .val (.int ((ff + (1 : Int32)) + (1 : Int32))), .val (.int (ff + (1 : Int32))), .val (.int (1 : Int32)), .val (.ref wb), .val (.int (1 : Int32)), .val (.int (tt (((ff + (1 : Int32)) + (1 : Int32))).toNatClampNeg)), .val (.int (own_a (tt (((ff + (1 : Int32)) + (1 : Int32))).toNatClampNeg)))] [(.ref wb), (.int (1 : Int32))])) := fun tq kq => G358 tq (by
                refine XS.ifYes X352.here hx rfl (pc0 := 142) (pc' := 148) rfl (hb hby d6_142) rfl ((if0 _ _).trans (feq (own_a1 hc359)).2) (by decide) (by decide) ?_
                show Steps p.tables e below (T352.setTop (mkF m 148 #[.val (.ref ax), .val (.ref tx), .val (.int nn), .val (.int ((ff + (1 : Int32)) + (1 : Int32))), .val (.int (ff + (1 : Int32))), .val (.int (1 : Int32)), .val (.ref wb), .val (.int (1 : Int32)), .val (.int (tt (((ff + (1 : Int32)) + (1 : Int32))).toNatClampNeg)), .val (.int (own_a (tt (((ff + (1 : Int32)) + (1 : Int32))).toNatClampNeg)))] [])) _
                refine XS.iload X352.here hx rfl (hb hby d6_148) rfl ?_
                show Steps p.tables e below (T352.setTop (mkF m 150 #[.val (.ref ax), .val (.ref tx), .val (.int nn), .val (.int ((ff + (1 : Int32)) + (1 : Int32))), .val (.int (ff + (1 : Int32))), .val (.int (1 : Int32)), .val (.ref wb), .val (.int (1 : Int32)), .val (.int (tt (((ff + (1 : Int32)) + (1 : Int32))).toNatClampNeg)), .val (.int (own_a (tt (((ff + (1 : Int32)) + (1 : Int32))).toNatClampNeg)))] [(.int (1 : Int32))])) _
                refine XS.aload X352.here hx rfl (hb hby d6_150) rfl rfl ?_
                show Steps p.tables e below (T352.setTop (mkF m 152 #[.val (.ref ax), .val (.ref tx), .val (.int nn), .val (.int ((ff + (1 : Int32)) + (1 : Int32))), .val (.int (ff + (1 : Int32))), .val (.int (1 : Int32)), .val (.ref wb), .val (.int (1 : Int32)), .val (.int (tt (((ff + (1 : Int32)) + (1 : Int32))).toNatClampNeg)), .val (.int (own_a (tt (((ff + (1 : Int32)) + (1 : Int32))).toNatClampNeg)))] [(.ref wb), (.int (1 : Int32))])) _
                exact kq)
              obtain ⟨cl361, Ar361, q361, S361, M361, H361⟩ := id V342
              have G362 : Go p e below A0 (T352.setTop (mkF m 176 #[.val (.ref ax), .val (.ref tx), .val (.int nn), .val (.int ((ff + (1 : Int32)) + (1 : Int32))), .val (.int (ff + (1 : Int32))), .val (.int (1 : Int32)), .val (.ref wb), .val (.int (2 : Int32)), .val (.int (tt (((ff + (1 : Int32)) + (1 : Int32))).toNatClampNeg)), .val (.int (own_a (tt (((ff + (1 : Int32)) + (1 : Int32))).toNatClampNeg)))] [(.int (own_a (tt (((ff + (1 : Int32)) + (1 : Int32))).toNatClampNeg))), (.int (1 : Int32)), (.ref wb)])) := fun tq kq => G360 tq (by
                refine X352.arraylength hx (by rw [e352]; exact Ar361.1) (State.isArrayOf_alike hZ.alike Ar361.2.1) (g := (mkF m 152 #[.val (.ref ax), .val (.ref tx), .val (.int nn), .val (.int ((ff + (1 : Int32)) + (1 : Int32))), .val (.int (ff + (1 : Int32))), .val (.int (1 : Int32)), .val (.ref wb), .val (.int (1 : Int32)), .val (.int (tt (((ff + (1 : Int32)) + (1 : Int32))).toNatClampNeg)), .val (.int (own_a (tt (((ff + (1 : Int32)) + (1 : Int32))).toNatClampNeg)))] [(.ref wb), (.int (1 : Int32))])) rfl rfl (hb hby d6_152) _ ?_
                rw [len_of S361 M361]
                show Steps p.tables e below (T352.setTop (mkF m 153 #[.val (.ref ax), .val (.ref tx), .val (.int nn), .val (.int ((ff + (1 : Int32)) + (1 : Int32))), .val (.int (ff + (1 : Int32))), .val (.int (1 : Int32)), .val (.ref wb), .val (.int (1 : Int32)), .val (.int (tt (((ff + (1 : Int32)) + (1 : Int32))).toNatClampNeg)), .val (.int (own_a (tt (((ff + (1 : Int32)) + (1 : Int32))).toNatClampNeg)))] [(.int (64 : Int32)), (.int (1 : Int32))])) _
                refine XS.icmpYes X352.here hx rfl (pc0 := 153) (pc' := 167) rfl (hb hby d6_153) rfl (by decide) (by decide) (by decide) ?_
                show Steps p.tables e below (T352.setTop (mkF m 167 #[.val (.ref ax), .val (.ref tx), .val (.int nn), .val (.int ((ff + (1 : Int32)) + (1 : Int32))), .val (.int (ff + (1 : Int32))), .val (.int (1 : Int32)), .val (.ref wb), .val (.int (1 : Int32)), .val (.int (tt (((ff + (1 : Int32)) + (1 : Int32))).toNatClampNeg)), .val (.int (own_a (tt (((ff + (1 : Int32)) + (1 : Int32))).toNatClampNeg)))] [])) _
                refine XS.aload X352.here hx rfl (hb hby d6_167) rfl rfl ?_
                show Steps p.tables e below (T352.setTop (mkF m 169 #[.val (.ref ax), .val (.ref tx), .val (.int nn), .val (.int ((ff + (1 : Int32)) + (1 : Int32))), .val (.int (ff + (1 : Int32))), .val (.int (1 : Int32)), .val (.ref wb), .val (.int (1 : Int32)), .val (.int (tt (((ff + (1 : Int32)) + (1 : Int32))).toNatClampNeg)), .val (.int (own_a (tt (((ff + (1 : Int32)) + (1 : Int32))).toNatClampNeg)))] [(.ref wb)])) _
                refine XS.iload X352.here hx rfl (hb hby d6_169) rfl ?_
                show Steps p.tables e below (T352.setTop (mkF m 171 #[.val (.ref ax), .val (.ref tx), .val (.int nn), .val (.int ((ff + (1 : Int32)) + (1 : Int32))), .val (.int (ff + (1 : Int32))), .val (.int (1 : Int32)), .val (.ref wb), .val (.int (1 : Int32)), .val (.int (tt (((ff + (1 : Int32)) + (1 : Int32))).toNatClampNeg)), .val (.int (own_a (tt (((ff + (1 : Int32)) + (1 : Int32))).toNatClampNeg)))] [(.int (1 : Int32)), (.ref wb)])) _
                refine XS.iinc X352.here hx rfl (hb hby d6_171) rfl (l' := #[.val (.ref ax), .val (.ref tx), .val (.int nn), .val (.int ((ff + (1 : Int32)) + (1 : Int32))), .val (.int (ff + (1 : Int32))), .val (.int (1 : Int32)), .val (.ref wb), .val (.int ((1 : Int32) + (1 : Int32))), .val (.int (tt (((ff + (1 : Int32)) + (1 : Int32))).toNatClampNeg)), .val (.int (own_a (tt (((ff + (1 : Int32)) + (1 : Int32))).toNatClampNeg)))]) rfl ?_
                show Steps p.tables e below (T352.setTop (mkF m 174 #[.val (.ref ax), .val (.ref tx), .val (.int nn), .val (.int ((ff + (1 : Int32)) + (1 : Int32))), .val (.int (ff + (1 : Int32))), .val (.int (1 : Int32)), .val (.ref wb), .val (.int ((1 : Int32) + (1 : Int32))), .val (.int (tt (((ff + (1 : Int32)) + (1 : Int32))).toNatClampNeg)), .val (.int (own_a (tt (((ff + (1 : Int32)) + (1 : Int32))).toNatClampNeg)))] [(.int (1 : Int32)), (.ref wb)])) _
                rw [show ((1 : Int32) + (1 : Int32)) = (2 : Int32) from (by decide : ((1 : Int32) + (1 : Int32)) = (2 : Int32))]
                show Steps p.tables e below (T352.setTop (mkF m 174 #[.val (.ref ax), .val (.ref tx), .val (.int nn), .val (.int ((ff + (1 : Int32)) + (1 : Int32))), .val (.int (ff + (1 : Int32))), .val (.int (1 : Int32)), .val (.ref wb), .val (.int (2 : Int32)), .val (.int (tt (((ff + (1 : Int32)) + (1 : Int32))).toNatClampNeg)), .val (.int (own_a (tt (((ff + (1 : Int32)) + (1 : Int32))).toNatClampNeg)))] [(.int (1 : Int32)), (.ref wb)])) _
                refine XS.iload X352.here hx rfl (hb hby d6_174) rfl ?_
                show Steps p.tables e below (T352.setTop (mkF m 176 #[.val (.ref ax), .val (.ref tx), .val (.int nn), .val (.int ((ff + (1 : Int32)) + (1 : Int32))), .val (.int (ff + (1 : Int32))), .val (.int (1 : Int32)), .val (.ref wb), .val (.int (2 : Int32)), .val (.int (tt (((ff + (1 : Int32)) + (1 : Int32))).toNatClampNeg)), .val (.int (own_a (tt (((ff + (1 : Int32)) + (1 : Int32))).toNatClampNeg)))] [(.int (own_a (tt (((ff + (1 : Int32)) + (1 : Int32))).toNatClampNeg))), (.int (1 : Int32)), (.ref wb)])) _
                exact kq)
              obtain ⟨cl363, Ar363, q363, S363, M363, H363⟩ := id V342
              have hi364 : ¬ ((1 : Int32) < 0 ∨ cl363.slots.size ≤ ((1 : Int32)).toNatClampNeg) := (inb_of S363 ⟨by decide, by decide⟩)
              obtain ⟨T365, h365, X365, e365, W365, st365⟩ := stB X352 hx hZ e352 Ar363 (j := (1 : Int32)) hi364 (g := (mkF m 176 #[.val (.ref ax), .val (.ref tx), .val (.int nn), .val (.int ((ff + (1 : Int32)) + (1 : Int32))), .val (.int (ff + (1 : Int32))), .val (.int (1 : Int32)), .val (.ref wb), .val (.int (2 : Int32)), .val (.int (tt (((ff + (1 : Int32)) + (1 : Int32))).toNatClampNeg)), .val (.int (own_a (tt (((ff + (1 : Int32)) + (1 : Int32))).toNatClampNeg)))] [(.int (own_a (tt (((ff + (1 : Int32)) + (1 : Int32))).toNatClampNeg))), (.int (1 : Int32)), (.ref wb)])) rfl rfl (hb hby d6_176)
              rw [show nar .byte (own_a (tt (((ff + (1 : Int32)) + (1 : Int32))).toNatClampNeg)) = (own_a (tt (((ff + (1 : Int32)) + (1 : Int32))).toNatClampNeg)) from own_naB _] at W365
              have N365 := Fr.snoc X365 N342 gwb
              have V365 : Af Z h365 wb kw .byte (64 : Int32) (fun i => .int ((own_up (own_up gw 0 (own_a (tt ((ff + (1 : Int32))).toNatClampNeg))) 1 (own_a (tt (((ff + (1 : Int32)) + (1 : Int32))).toNatClampNeg))) i)) := (Af.set Ar363 q363 S363 M363 H363 W365 hi364).fn (fun j _ => own_upf _ _ _ _ rfl j)
              have G366 : Go p e below A0 (T365.setTop (mkF m 177 #[.val (.ref ax), .val (.ref tx), .val (.int nn), .val (.int ((ff + (1 : Int32)) + (1 : Int32))), .val (.int (ff + (1 : Int32))), .val (.int (1 : Int32)), .val (.ref wb), .val (.int (2 : Int32)), .val (.int (tt (((ff + (1 : Int32)) + (1 : Int32))).toNatClampNeg)), .val (.int (own_a (tt (((ff + (1 : Int32)) + (1 : Int32))).toNatClampNeg)))] [])) := fun tq kq => G362 tq (st365 _ kq)
              have G367 : Go p e below A0 (T365.setTop (mkF m 286 #[.val (.ref ax), .val (.ref tx), .val (.int nn), .val (.int (((ff + (1 : Int32)) + (1 : Int32)) + (1 : Int32))), .val (.int (ff + (1 : Int32))), .val (.int (1 : Int32)), .val (.ref wb), .val (.int (2 : Int32)), .val (.int (tt (((ff + (1 : Int32)) + (1 : Int32))).toNatClampNeg)), .val (.int (own_a (tt (((ff + (1 : Int32)) + (1 : Int32))).toNatClampNeg)))] [(.int (((ff + (1 : Int32)) + (1 : Int32)) + (1 : Int32))), (.ref ax)])) := fun tq kq => G366 tq (by
                refine XS.iinc X365.here hx rfl (hb hby d6_177) rfl (l' := #[.val (.ref ax), .val (.ref tx), .val (.int nn), .val (.int (((ff + (1 : Int32)) + (1 : Int32)) + (1 : Int32))), .val (.int (ff + (1 : Int32))), .val (.int (1 : Int32)), .val (.ref wb), .val (.int (2 : Int32)), .val (.int (tt (((ff + (1 : Int32)) + (1 : Int32))).toNatClampNeg)), .val (.int (own_a (tt (((ff + (1 : Int32)) + (1 : Int32))).toNatClampNeg)))]) rfl ?_
                show Steps p.tables e below (T365.setTop (mkF m 180 #[.val (.ref ax), .val (.ref tx), .val (.int nn), .val (.int (((ff + (1 : Int32)) + (1 : Int32)) + (1 : Int32))), .val (.int (ff + (1 : Int32))), .val (.int (1 : Int32)), .val (.ref wb), .val (.int (2 : Int32)), .val (.int (tt (((ff + (1 : Int32)) + (1 : Int32))).toNatClampNeg)), .val (.int (own_a (tt (((ff + (1 : Int32)) + (1 : Int32))).toNatClampNeg)))] [])) _
                refine XS.goto X365.here hx rfl (pc0 := 180) (pc' := 213) rfl (hb hby d6_180) (by decide) (by decide) ?_
                show Steps p.tables e below (T365.setTop (mkF m 213 #[.val (.ref ax), .val (.ref tx), .val (.int nn), .val (.int (((ff + (1 : Int32)) + (1 : Int32)) + (1 : Int32))), .val (.int (ff + (1 : Int32))), .val (.int (1 : Int32)), .val (.ref wb), .val (.int (2 : Int32)), .val (.int (tt (((ff + (1 : Int32)) + (1 : Int32))).toNatClampNeg)), .val (.int (own_a (tt (((ff + (1 : Int32)) + (1 : Int32))).toNatClampNeg)))] [])) _
                refine XS.goto X365.here hx rfl (pc0 := 213) (pc' := 114) rfl (hb hby d6_213) (by decide) (by decide) ?_
                show Steps p.tables e below (T365.setTop (mkF m 114 #[.val (.ref ax), .val (.ref tx), .val (.int nn), .val (.int (((ff + (1 : Int32)) + (1 : Int32)) + (1 : Int32))), .val (.int (ff + (1 : Int32))), .val (.int (1 : Int32)), .val (.ref wb), .val (.int (2 : Int32)), .val (.int (tt (((ff + (1 : Int32)) + (1 : Int32))).toNatClampNeg)), .val (.int (own_a (tt (((ff + (1 : Int32)) + (1 : Int32))).toNatClampNeg)))] [])) _
                refine XS.iloadN X365.here hx rfl (hb hby d6_114) rfl ?_
                show Steps p.tables e below (T365.setTop (mkF m 115 #[.val (.ref ax), .val (.ref tx), .val (.int nn), .val (.int (((ff + (1 : Int32)) + (1 : Int32)) + (1 : Int32))), .val (.int (ff + (1 : Int32))), .val (.int (1 : Int32)), .val (.ref wb), .val (.int (2 : Int32)), .val (.int (tt (((ff + (1 : Int32)) + (1 : Int32))).toNatClampNeg)), .val (.int (own_a (tt (((ff + (1 : Int32)) + (1 : Int32))).toNatClampNeg)))] [(.int (((ff + (1 : Int32)) + (1 : Int32)) + (1 : Int32)))])) _
                refine XS.iloadN X365.here hx rfl (hb hby d6_115) rfl ?_
                show Steps p.tables e below (T365.setTop (mkF m 116 #[.val (.ref ax), .val (.ref tx), .val (.int nn), .val (.int (((ff + (1 : Int32)) + (1 : Int32)) + (1 : Int32))), .val (.int (ff + (1 : Int32))), .val (.int (1 : Int32)), .val (.ref wb), .val (.int (2 : Int32)), .val (.int (tt (((ff + (1 : Int32)) + (1 : Int32))).toNatClampNeg)), .val (.int (own_a (tt (((ff + (1 : Int32)) + (1 : Int32))).toNatClampNeg)))] [(.int nn), (.int (((ff + (1 : Int32)) + (1 : Int32)) + (1 : Int32)))])) _
                refine XS.icmpYes X365.here hx rfl (pc0 := 116) (pc' := 216) rfl (hb hby d6_116) rfl (flt mi350).2.1 (by decide) (by decide) ?_
                show Steps p.tables e below (T365.setTop (mkF m 216 #[.val (.ref ax), .val (.ref tx), .val (.int nn), .val (.int (((ff + (1 : Int32)) + (1 : Int32)) + (1 : Int32))), .val (.int (ff + (1 : Int32))), .val (.int (1 : Int32)), .val (.ref wb), .val (.int (2 : Int32)), .val (.int (tt (((ff + (1 : Int32)) + (1 : Int32))).toNatClampNeg)), .val (.int (own_a (tt (((ff + (1 : Int32)) + (1 : Int32))).toNatClampNeg)))] [])) _
                refine XS.iload X365.here hx rfl (hb hby d6_216) rfl ?_
                show Steps p.tables e below (T365.setTop (mkF m 218 #[.val (.ref ax), .val (.ref tx), .val (.int nn), .val (.int (((ff + (1 : Int32)) + (1 : Int32)) + (1 : Int32))), .val (.int (ff + (1 : Int32))), .val (.int (1 : Int32)), .val (.ref wb), .val (.int (2 : Int32)), .val (.int (tt (((ff + (1 : Int32)) + (1 : Int32))).toNatClampNeg)), .val (.int (own_a (tt (((ff + (1 : Int32)) + (1 : Int32))).toNatClampNeg)))] [(.int (1 : Int32))])) _
                refine XS.ifYes X365.here hx rfl (pc0 := 218) (pc' := 284) rfl (hb hby d6_218) rfl (by decide) (by decide) (by decide) ?_
                show Steps p.tables e below (T365.setTop (mkF m 284 #[.val (.ref ax), .val (.ref tx), .val (.int nn), .val (.int (((ff + (1 : Int32)) + (1 : Int32)) + (1 : Int32))), .val (.int (ff + (1 : Int32))), .val (.int (1 : Int32)), .val (.ref wb), .val (.int (2 : Int32)), .val (.int (tt (((ff + (1 : Int32)) + (1 : Int32))).toNatClampNeg)), .val (.int (own_a (tt (((ff + (1 : Int32)) + (1 : Int32))).toNatClampNeg)))] [])) _
                refine XS.aloadN X365.here hx rfl (hb hby d6_284) rfl rfl ?_
                show Steps p.tables e below (T365.setTop (mkF m 285 #[.val (.ref ax), .val (.ref tx), .val (.int nn), .val (.int (((ff + (1 : Int32)) + (1 : Int32)) + (1 : Int32))), .val (.int (ff + (1 : Int32))), .val (.int (1 : Int32)), .val (.ref wb), .val (.int (2 : Int32)), .val (.int (tt (((ff + (1 : Int32)) + (1 : Int32))).toNatClampNeg)), .val (.int (own_a (tt (((ff + (1 : Int32)) + (1 : Int32))).toNatClampNeg)))] [(.ref ax)])) _
                refine XS.iloadN X365.here hx rfl (hb hby d6_285) rfl ?_
                show Steps p.tables e below (T365.setTop (mkF m 286 #[.val (.ref ax), .val (.ref tx), .val (.int nn), .val (.int (((ff + (1 : Int32)) + (1 : Int32)) + (1 : Int32))), .val (.int (ff + (1 : Int32))), .val (.int (1 : Int32)), .val (.ref wb), .val (.int (2 : Int32)), .val (.int (tt (((ff + (1 : Int32)) + (1 : Int32))).toNatClampNeg)), .val (.int (own_a (tt (((ff + (1 : Int32)) + (1 : Int32))).toNatClampNeg)))] [(.int (((ff + (1 : Int32)) + (1 : Int32)) + (1 : Int32))), (.ref ax)])) _
                exact kq)
              have f368 := (((E.wr W318).wr W342).wr W365)
              have f369 := ((fw318.other W342 (Or.inl haw)).other W365 (Or.inl haw))
              obtain ⟨T370, h370, X370, e370, W370, st370⟩ := putF X365 hx hZ hown (host := "") (Or.inl (hw _ (List.mem_of_getElem? (i := 27) rfl))) Via.refl e365 f369 f368 (Or.inl (hw _ (List.mem_of_getElem? (i := 28) rfl))) (hw _ (List.mem_of_getElem? (i := 9) rfl)) (ty := .int) (by decide) rfl rfl (g := (mkF m 286 #[.val (.ref ax), .val (.ref tx), .val (.int nn), .val (.int (((ff + (1 : Int32)) + (1 : Int32)) + (1 : Int32))), .val (.int (ff + (1 : Int32))), .val (.int (1 : Int32)), .val (.ref wb), .val (.int (2 : Int32)), .val (.int (tt (((ff + (1 : Int32)) + (1 : Int32))).toNatClampNeg)), .val (.int (own_a (tt (((ff + (1 : Int32)) + (1 : Int32))).toNatClampNeg)))] [(.int (((ff + (1 : Int32)) + (1 : Int32)) + (1 : Int32))), (.ref ax)])) rfl rfl (hb hby d6_286)
              have N370 := Fr.snoc X370 N365 gax
              have fw370 := f369.same W370
              have G371 : Go p e below A0 (T370.setTop (mkF m 289 #[.val (.ref ax), .val (.ref tx), .val (.int nn), .val (.int (((ff + (1 : Int32)) + (1 : Int32)) + (1 : Int32))), .val (.int (ff + (1 : Int32))), .val (.int (1 : Int32)), .val (.ref wb), .val (.int (2 : Int32)), .val (.int (tt (((ff + (1 : Int32)) + (1 : Int32))).toNatClampNeg)), .val (.int (own_a (tt (((ff + (1 : Int32)) + (1 : Int32))).toNatClampNeg)))] [])) := fun tq kq => G367 tq (st370 _ kq)
              have G372 : Go p e below A0 (T370.setTop (mkF m 292 #[.val (.ref ax), .val (.ref tx), .val (.int nn), .val (.int (((ff + (1 : Int32)) + (1 : Int32)) + (1 : Int32))), .val (.int (ff + (1 : Int32))), .val (.int (1 : Int32)), .val (.ref wb), .val (.int (2 : Int32)), .val (.int (tt (((ff + (1 : Int32)) + (1 : Int32))).toNatClampNeg)), .val (.int (own_a (tt (((ff + (1 : Int32)) + (1 : Int32))).toNatClampNeg)))] [(.ref wb), (.ref ax)])) := fun tq kq => G371 tq (by
                refine XS.aloadN X370.here hx rfl (hb hby d6_289) rfl rfl ?_
                show Steps p.tables e below (T370.setTop (mkF m 290 #[.val (.ref ax), .val (.ref tx), .val (.int nn), .val (.int (((ff + (1 : Int32)) + (1 : Int32)) + (1 : Int32))), .val (.int (ff + (1 : Int32))), .val (.int (1 : Int32)), .val (.ref wb), .val (.int (2 : Int32)), .val (.int (tt (((ff + (1 : Int32)) + (1 : Int32))).toNatClampNeg)), .val (.int (own_a (tt (((ff + (1 : Int32)) + (1 : Int32))).toNatClampNeg)))] [(.ref ax)])) _
                refine XS.aload X370.here hx rfl (hb hby d6_290) rfl rfl ?_
                show Steps p.tables e below (T370.setTop (mkF m 292 #[.val (.ref ax), .val (.ref tx), .val (.int nn), .val (.int (((ff + (1 : Int32)) + (1 : Int32)) + (1 : Int32))), .val (.int (ff + (1 : Int32))), .val (.int (1 : Int32)), .val (.ref wb), .val (.int (2 : Int32)), .val (.int (tt (((ff + (1 : Int32)) + (1 : Int32))).toNatClampNeg)), .val (.int (own_a (tt (((ff + (1 : Int32)) + (1 : Int32))).toNatClampNeg)))] [(.ref wb), (.ref ax)])) _
                exact kq)
              have f373 := (f368.wr W370)
              have f374 := (((f321.other W342 (Or.inl haw)).other W365 (Or.inl haw)).other W370 (Or.inr (slot_ne (Or.inl (hw _ (List.mem_of_getElem? (i := 19) rfl))) (Or.inl (hw _ (List.mem_of_getElem? (i := 28) rfl))) (by decide) (t := (.array .byte)) (t' := .int) (by decide) (by decide))))
              obtain ⟨T375, h375, X375, e375, W375, st375⟩ := putF X370 hx hZ hown (host := "") (Or.inl (hw _ (List.mem_of_getElem? (i := 18) rfl))) Via.refl e370 f374 f373 (Or.inl (hw _ (List.mem_of_getElem? (i := 19) rfl))) (hw _ (List.mem_of_getElem? (i := 9) rfl)) (ty := (.array .byte)) (by decide) rfl rfl (g := (mkF m 292 #[.val (.ref ax), .val (.ref tx), .val (.int nn), .val (.int (((ff + (1 : Int32)) + (1 : Int32)) + (1 : Int32))), .val (.int (ff + (1 : Int32))), .val (.int (1 : Int32)), .val (.ref wb), .val (.int (2 : Int32)), .val (.int (tt (((ff + (1 : Int32)) + (1 : Int32))).toNatClampNeg)), .val (.int (own_a (tt (((ff + (1 : Int32)) + (1 : Int32))).toNatClampNeg)))] [(.ref wb), (.ref ax)])) rfl rfl (hb hby d6_292)
              have N375 := Fr.snoc X375 N370 gax
              have fw375 := f374.same W375
              have G376 : Go p e below A0 (T375.setTop (mkF m 295 #[.val (.ref ax), .val (.ref tx), .val (.int nn), .val (.int (((ff + (1 : Int32)) + (1 : Int32)) + (1 : Int32))), .val (.int (ff + (1 : Int32))), .val (.int (1 : Int32)), .val (.ref wb), .val (.int (2 : Int32)), .val (.int (tt (((ff + (1 : Int32)) + (1 : Int32))).toNatClampNeg)), .val (.int (own_a (tt (((ff + (1 : Int32)) + (1 : Int32))).toNatClampNeg)))] [])) := fun tq kq => G372 tq (st375 _ kq)
              have G377 : Go p e below A0 (T375.setTop (mkF m 298 #[.val (.ref ax), .val (.ref tx), .val (.int nn), .val (.int (((ff + (1 : Int32)) + (1 : Int32)) + (1 : Int32))), .val (.int (ff + (1 : Int32))), .val (.int (1 : Int32)), .val (.ref wb), .val (.int (2 : Int32)), .val (.int (tt (((ff + (1 : Int32)) + (1 : Int32))).toNatClampNeg)), .val (.int (own_a (tt (((ff + (1 : Int32)) + (1 : Int32))).toNatClampNeg)))] [(.int (2 : Int32)), (.ref ax)])) := fun tq kq => G376 tq (by
                refine XS.aloadN X375.here hx rfl (hb hby d6_295) rfl rfl ?_
                show Steps p.tables e below (T375.setTop (mkF m 296 #[.val (.ref ax), .val (.ref tx), .val (.int nn), .val (.int (((ff + (1 : Int32)) + (1 : Int32)) + (1 : Int32))), .val (.int (ff + (1 : Int32))), .val (.int (1 : Int32)), .val (.ref wb), .val (.int (2 : Int32)), .val (.int (tt (((ff + (1 : Int32)) + (1 : Int32))).toNatClampNeg)), .val (.int (own_a (tt (((ff + (1 : Int32)) + (1 : Int32))).toNatClampNeg)))] [(.ref ax)])) _
                refine XS.iload X375.here hx rfl (hb hby d6_296) rfl ?_
                show Steps p.tables e below (T375.setTop (mkF m 298 #[.val (.ref ax), .val (.ref tx), .val (.int nn), .val (.int (((ff + (1 : Int32)) + (1 : Int32)) + (1 : Int32))), .val (.int (ff + (1 : Int32))), .val (.int (1 : Int32)), .val (.ref wb), .val (.int (2 : Int32)), .val (.int (tt (((ff + (1 : Int32)) + (1 : Int32))).toNatClampNeg)), .val (.int (own_a (tt (((ff + (1 : Int32)) + (1 : Int32))).toNatClampNeg)))] [(.int (2 : Int32)), (.ref ax)])) _
                exact kq)
              have f378 := (f373.wr W375)
              have f379 := (((((F_length.other W318 (Or.inr (slot_ne (Or.inl (hw _ (List.mem_of_getElem? (i := 32) rfl))) (Or.inl (hw _ (List.mem_of_getElem? (i := 28) rfl))) (by decide) (t := .int) (t' := .int) (by decide) (by decide)))).other W342 (Or.inl haw)).other W365 (Or.inl haw)).other W370 (Or.inr (slot_ne (Or.inl (hw _ (List.mem_of_getElem? (i := 32) rfl))) (Or.inl (hw _ (List.mem_of_getElem? (i := 28) rfl))) (by decide) (t := .int) (t' := .int) (by decide) (by decide)))).other W375 (Or.inr (slot_ne (Or.inl (hw _ (List.mem_of_getElem? (i := 32) rfl))) (Or.inl (hw _ (List.mem_of_getElem? (i := 19) rfl))) (by decide) (t := .int) (t' := (.array .byte)) (by decide) (by decide))))
              obtain ⟨T380, h380, X380, e380, W380, st380⟩ := putF X375 hx hZ hown (host := "") (Or.inl (hw _ (List.mem_of_getElem? (i := 31) rfl))) Via.refl e375 f379 f378 (Or.inl (hw _ (List.mem_of_getElem? (i := 32) rfl))) (hw _ (List.mem_of_getElem? (i := 9) rfl)) (ty := .int) (by decide) rfl rfl (g := (mkF m 298 #[.val (.ref ax), .val (.ref tx), .val (.int nn), .val (.int (((ff + (1 : Int32)) + (1 : Int32)) + (1 : Int32))), .val (.int (ff + (1 : Int32))), .val (.int (1 : Int32)), .val (.ref wb), .val (.int (2 : Int32)), .val (.int (tt (((ff + (1 : Int32)) + (1 : Int32))).toNatClampNeg)), .val (.int (own_a (tt (((ff + (1 : Int32)) + (1 : Int32))).toNatClampNeg)))] [(.int (2 : Int32)), (.ref ax)])) rfl rfl (hb hby d6_298)
              have N380 := Fr.snoc X380 N375 gax
              have fw380 := f379.same W380
              have G381 : Go p e below A0 (T380.setTop (mkF m 301 #[.val (.ref ax), .val (.ref tx), .val (.int nn), .val (.int (((ff + (1 : Int32)) + (1 : Int32)) + (1 : Int32))), .val (.int (ff + (1 : Int32))), .val (.int (1 : Int32)), .val (.ref wb), .val (.int (2 : Int32)), .val (.int (tt (((ff + (1 : Int32)) + (1 : Int32))).toNatClampNeg)), .val (.int (own_a (tt (((ff + (1 : Int32)) + (1 : Int32))).toNatClampNeg)))] [])) := fun tq kq => G377 tq (st380 _ kq)
              have G382 : Go p e below A0 (T380.setTop (mkF m 302 #[.val (.ref ax), .val (.ref tx), .val (.int nn), .val (.int (((ff + (1 : Int32)) + (1 : Int32)) + (1 : Int32))), .val (.int (ff + (1 : Int32))), .val (.int (1 : Int32)), .val (.ref wb), .val (.int (2 : Int32)), .val (.int (tt (((ff + (1 : Int32)) + (1 : Int32))).toNatClampNeg)), .val (.int (own_a (tt (((ff + (1 : Int32)) + (1 : Int32))).toNatClampNeg)))] [(.int (1 : Int32))])) := fun tq kq => G381 tq (by
                refine XS.iconst X380.here hx rfl (hb hby d6_301) ?_
                show Steps p.tables e below (T380.setTop (mkF m 302 #[.val (.ref ax), .val (.ref tx), .val (.int nn), .val (.int (((ff + (1 : Int32)) + (1 : Int32)) + (1 : Int32))), .val (.int (ff + (1 : Int32))), .val (.int (1 : Int32)), .val (.ref wb), .val (.int (2 : Int32)), .val (.int (tt (((ff + (1 : Int32)) + (1 : Int32))).toNatClampNeg)), .val (.int (own_a (tt (((ff + (1 : Int32)) + (1 : Int32))).toNatClampNeg)))] [(.int (1 : Int32))])) _
                exact kq)
              have f383 := ((((((F_text.other W318 (Or.inr (slot_ne (Or.inl (hw _ (List.mem_of_getElem? (i := 26) rfl))) (Or.inl (hw _ (List.mem_of_getElem? (i := 28) rfl))) (by decide) (t := (.array .char)) (t' := .int) (by decide) (by decide)))).other W342 (Or.inl haw)).other W365 (Or.inl haw)).other W370 (Or.inr (slot_ne (Or.inl (hw _ (List.mem_of_getElem? (i := 26) rfl))) (Or.inl (hw _ (List.mem_of_getElem? (i := 28) rfl))) (by decide) (t := (.array .char)) (t' := .int) (by decide) (by decide)))).other W375 (Or.inr (slot_ne (Or.inl (hw _ (List.mem_of_getElem? (i := 26) rfl))) (Or.inl (hw _ (List.mem_of_getElem? (i := 19) rfl))) (by decide) (t := (.array .char)) (t' := (.array .byte)) (by decide) (by decide)))).other W380 (Or.inr (slot_ne (Or.inl (hw _ (List.mem_of_getElem? (i := 26) rfl))) (Or.inl (hw _ (List.mem_of_getElem? (i := 32) rfl))) (by decide) (t := (.array .char)) (t' := .int) (by decide) (by decide))))
              have f384 := ((fw370.other W375 (Or.inr (slot_ne (Or.inl (hw _ (List.mem_of_getElem? (i := 28) rfl))) (Or.inl (hw _ (List.mem_of_getElem? (i := 19) rfl))) (by decide) (t := .int) (t' := (.array .byte)) (by decide) (by decide)))).other W380 (Or.inr (slot_ne (Or.inl (hw _ (List.mem_of_getElem? (i := 28) rfl))) (Or.inl (hw _ (List.mem_of_getElem? (i := 32) rfl))) (by decide) (t := .int) (t' := .int) (by decide) (by decide))))
              have f385 := ((((((F_to.other W318 (Or.inr (slot_ne (Or.inl (hw _ (List.mem_of_getElem? (i := 30) rfl))) (Or.inl (hw _ (List.mem_of_getElem? (i := 28) rfl))) (by decide) (t := .int) (t' := .int) (by decide) (by decide)))).other W342 (Or.inl haw)).other W365 (Or.inl haw)).other W370 (Or.inr (slot_ne (Or.inl (hw _ (List.mem_of_getElem? (i := 30) rfl))) (Or.inl (hw _ (List.mem_of_getElem? (i := 28) rfl))) (by decide) (t := .int) (t' := .int) (by decide) (by decide)))).other W375 (Or.inr (slot_ne (Or.inl (hw _ (List.mem_of_getElem? (i := 30) rfl))) (Or.inl (hw _ (List.mem_of_getElem? (i := 19) rfl))) (by decide) (t := .int) (t' := (.array .byte)) (by decide) (by decide)))).other W380 (Or.inr (slot_ne (Or.inl (hw _ (List.mem_of_getElem? (i := 30) rfl))) (Or.inl (hw _ (List.mem_of_getElem? (i := 32) rfl))) (by decide) (t := .int) (t' := .int) (by decide) (by decide))))
              have f386 := (fw375.other W380 (Or.inr (slot_ne (Or.inl (hw _ (List.mem_of_getElem? (i := 19) rfl))) (Or.inl (hw _ (List.mem_of_getElem? (i := 32) rfl))) (by decide) (t := (.array .byte)) (t' := .int) (by decide) (by decide))))
              have f387 := (((V365.other W370 (Ne.symm haw)).other W375 (Ne.symm haw)).other W380 (Ne.symm haw))
              have e1 : sv = (ff + (1 : Int32)) := by rw [hS]; simp only [own_b, own_st, hc112, hc124, hc304, hc316, hc345, mi350, hc359, not_true_eq_false, not_false_eq_true, if_true, if_false, or_true, true_or, or_false, false_or, and_true, true_and, and_false, false_and, and_self, or_self]
              have e2 : ev = (((ff + (1 : Int32)) + (1 : Int32)) + (1 : Int32)) := by rw [hE, e1]; simp only [own_b, own_en, hc112, hc124, hc304, hc316, hc345, mi350, hc359, not_true_eq_false, not_false_eq_true, if_true, if_false, or_true, true_or, or_false, false_or, and_true, true_and, and_false, false_and, and_self, or_self]
              obtain ⟨fs, hr, hrun, hended, hW, hsame⟩ := X380.leave (v := some (.int (nar .boolean (1 : Int32)))) (fun h => by rw [Bd.returns] at h; cases h)
              refine ⟨_, _, (by rw [← hA0]; exact G382 _ (retN X380 hx (t := .boolean) Bd.returns (by simp) (hb hby d6_302) hr)), hrun, hended, _, _, rfl, ?_, ⟨_, rfl⟩, hW, hsame.mono (by decide) (by decide)⟩
              show Qnx Z ax tx wb tt nn sv ev kw h0 n0 _ T380.heap _
              rw [e380]
              rw [e1, e2]
              exact ⟨(own_up (own_up gw 0 (own_a (tt ((ff + (1 : Int32))).toNatClampNeg))) 1 (own_a (tt (((ff + (1 : Int32)) + (1 : Int32))).toNatClampNeg))), (by rw [own_bt (own_ltne hc304)]; rfl), N380, (((((((Keep.refl h0 [ax, wb]).wr W318 (Or.inl (List.mem_of_getElem? (i := 0) rfl))).wr W342 (Or.inl (List.mem_of_getElem? (i := 1) rfl))).wr W365 (Or.inl (List.mem_of_getElem? (i := 1) rfl))).wr W370 (Or.inl (List.mem_of_getElem? (i := 0) rfl))).wr W375 (Or.inl (List.mem_of_getElem? (i := 0) rfl))).wr W380 (Or.inl (List.mem_of_getElem? (i := 0) rfl))), f383, f384, f385, (by rw [← own_d2]; exact fw380), f386, f387, own_ct2 hc316 hc359⟩
            · have G388 : Go p e below A0 (T352.setTop (mkF m 286 #[.val (.ref ax), .val (.ref tx), .val (.int nn), .val (.int ((ff + (1 : Int32)) + (1 : Int32))), .val (.int (ff + (1 : Int32))), .val (.int (1 : Int32)), .val (.ref wb), .val (.int (1 : Int32)), .val (.int (tt (((ff + (1 : Int32)) + (1 : Int32))).toNatClampNeg)), .val (.int (own_a (tt (((ff + (1 : Int32)) + (1 : Int32))).toNatClampNeg)))] [(.int ((ff + (1 : Int32)) + (1 : Int32))), (.ref ax)])) := fun tq kq => G358 tq (by
                refine XS.ifNo X352.here hx rfl (hb hby d6_142) rfl ((if0 _ _).trans (teq (own_a0 hc359)).2) ?_
                show Steps p.tables e below (T352.setTop (mkF m 145 #[.val (.ref ax), .val (.ref tx), .val (.int nn), .val (.int ((ff + (1 : Int32)) + (1 : Int32))), .val (.int (ff + (1 : Int32))), .val (.int (1 : Int32)), .val (.ref wb), .val (.int (1 : Int32)), .val (.int (tt (((ff + (1 : Int32)) + (1 : Int32))).toNatClampNeg)), .val (.int (own_a (tt (((ff + (1 : Int32)) + (1 : Int32))).toNatClampNeg)))] [])) _
                refine XS.goto X352.here hx rfl (pc0 := 145) (pc' := 216) rfl (hb hby d6_145) (by decide) (by decide) ?_
                show Steps p.tables e below (T352.setTop (mkF m 216 #[.val (.ref ax), .val (.ref tx), .val (.int nn), .val (.int ((ff + (1 : Int32)) + (1 : Int32))), .val (.int (ff + (1 : Int32))), .val (.int (1 : Int32)), .val (.ref wb), .val (.int (1 : Int32)), .val (.int (tt (((ff + (1 : Int32)) + (1 : Int32))).toNatClampNeg)), .val (.int (own_a (tt (((ff + (1 : Int32)) + (1 : Int32))).toNatClampNeg)))] [])) _
                refine XS.iload X352.here hx rfl (hb hby d6_216) rfl ?_
                show Steps p.tables e below (T352.setTop (mkF m 218 #[.val (.ref ax), .val (.ref tx), .val (.int nn), .val (.int ((ff + (1 : Int32)) + (1 : Int32))), .val (.int (ff + (1 : Int32))), .val (.int (1 : Int32)), .val (.ref wb), .val (.int (1 : Int32)), .val (.int (tt (((ff + (1 : Int32)) + (1 : Int32))).toNatClampNeg)), .val (.int (own_a (tt (((ff + (1 : Int32)) + (1 : Int32))).toNatClampNeg)))] [(.int (1 : Int32))])) _
                refine XS.ifYes X352.here hx rfl (pc0 := 218) (pc' := 284) rfl (hb hby d6_218) rfl (by decide) (by decide) (by decide) ?_
                show Steps p.tables e below (T352.setTop (mkF m 284 #[.val (.ref ax), .val (.ref tx), .val (.int nn), .val (.int ((ff + (1 : Int32)) + (1 : Int32))), .val (.int (ff + (1 : Int32))), .val (.int (1 : Int32)), .val (.ref wb), .val (.int (1 : Int32)), .val (.int (tt (((ff + (1 : Int32)) + (1 : Int32))).toNatClampNeg)), .val (.int (own_a (tt (((ff + (1 : Int32)) + (1 : Int32))).toNatClampNeg)))] [])) _
                refine XS.aloadN X352.here hx rfl (hb hby d6_284) rfl rfl ?_
                show Steps p.tables e below (T352.setTop (mkF m 285 #[.val (.ref ax), .val (.ref tx), .val (.int nn), .val (.int ((ff + (1 : Int32)) + (1 : Int32))), .val (.int (ff + (1 : Int32))), .val (.int (1 : Int32)), .val (.ref wb), .val (.int (1 : Int32)), .val (.int (tt (((ff + (1 : Int32)) + (1 : Int32))).toNatClampNeg)), .val (.int (own_a (tt (((ff + (1 : Int32)) + (1 : Int32))).toNatClampNeg)))] [(.ref ax)])) _
                refine XS.iloadN X352.here hx rfl (hb hby d6_285) rfl ?_
                show Steps p.tables e below (T352.setTop (mkF m 286 #[.val (.ref ax), .val (.ref tx), .val (.int nn), .val (.int ((ff + (1 : Int32)) + (1 : Int32))), .val (.int (ff + (1 : Int32))), .val (.int (1 : Int32)), .val (.ref wb), .val (.int (1 : Int32)), .val (.int (tt (((ff + (1 : Int32)) + (1 : Int32))).toNatClampNeg)), .val (.int (own_a (tt (((ff + (1 : Int32)) + (1 : Int32))).toNatClampNeg)))] [(.int ((ff + (1 : Int32)) + (1 : Int32))), (.ref ax)])) _
                exact kq)
              have f389 := ((E.wr W318).wr W342)
              have f390 := (fw318.other W342 (Or.inl haw))
              obtain ⟨T391, h391, X391, e391, W391, st391⟩ := putF X352 hx hZ hown (host := "") (Or.inl (hw _ (List.mem_of_getElem? (i := 27) rfl))) Via.refl e352 f390 f389 (Or.inl (hw _ (List.mem_of_getElem? (i := 28) rfl))) (hw _ (List.mem_of_getElem? (i := 9) rfl)) (ty := .int) (by decide) rfl rfl (g := (mkF m 286 #[.val (.ref ax), .val (.ref tx), .val (.int nn), .val (.int ((ff + (1 : Int32)) + (1 : Int32))), .val (.int (ff + (1 : Int32))), .val (.int (1 : Int32)), .val (.ref wb), .val (.int (1 : Int32)), .val (.int (tt (((ff + (1 : Int32)) + (1 : Int32))).toNatClampNeg)), .val (.int (own_a (tt (((ff + (1 : Int32)) + (1 : Int32))).toNatClampNeg)))] [(.int ((ff + (1 : Int32)) + (1 : Int32))), (.ref ax)])) rfl rfl (hb hby d6_286)
              have N391 := Fr.snoc X391 N342 gax
              have fw391 := f390.same W391
              have G392 : Go p e below A0 (T391.setTop (mkF m 289 #[.val (.ref ax), .val (.ref tx), .val (.int nn), .val (.int ((ff + (1 : Int32)) + (1 : Int32))), .val (.int (ff + (1 : Int32))), .val (.int (1 : Int32)), .val (.ref wb), .val (.int (1 : Int32)), .val (.int (tt (((ff + (1 : Int32)) + (1 : Int32))).toNatClampNeg)), .val (.int (own_a (tt (((ff + (1 : Int32)) + (1 : Int32))).toNatClampNeg)))] [])) := fun tq kq => G388 tq (st391 _ kq)
              have G393 : Go p e below A0 (T391.setTop (mkF m 292 #[.val (.ref ax), .val (.ref tx), .val (.int nn), .val (.int ((ff + (1 : Int32)) + (1 : Int32))), .val (.int (ff + (1 : Int32))), .val (.int (1 : Int32)), .val (.ref wb), .val (.int (1 : Int32)), .val (.int (tt (((ff + (1 : Int32)) + (1 : Int32))).toNatClampNeg)), .val (.int (own_a (tt (((ff + (1 : Int32)) + (1 : Int32))).toNatClampNeg)))] [(.ref wb), (.ref ax)])) := fun tq kq => G392 tq (by
                refine XS.aloadN X391.here hx rfl (hb hby d6_289) rfl rfl ?_
                show Steps p.tables e below (T391.setTop (mkF m 290 #[.val (.ref ax), .val (.ref tx), .val (.int nn), .val (.int ((ff + (1 : Int32)) + (1 : Int32))), .val (.int (ff + (1 : Int32))), .val (.int (1 : Int32)), .val (.ref wb), .val (.int (1 : Int32)), .val (.int (tt (((ff + (1 : Int32)) + (1 : Int32))).toNatClampNeg)), .val (.int (own_a (tt (((ff + (1 : Int32)) + (1 : Int32))).toNatClampNeg)))] [(.ref ax)])) _
                refine XS.aload X391.here hx rfl (hb hby d6_290) rfl rfl ?_
                show Steps p.tables e below (T391.setTop (mkF m 292 #[.val (.ref ax), .val (.ref tx), .val (.int nn), .val (.int ((ff + (1 : Int32)) + (1 : Int32))), .val (.int (ff + (1 : Int32))), .val (.int (1 : Int32)), .val (.ref wb), .val (.int (1 : Int32)), .val (.int (tt (((ff + (1 : Int32)) + (1 : Int32))).toNatClampNeg)), .val (.int (own_a (tt (((ff + (1 : Int32)) + (1 : Int32))).toNatClampNeg)))] [(.ref wb), (.ref ax)])) _
                exact kq)
              have f394 := (f389.wr W391)
              have f395 := ((f321.other W342 (Or.inl haw)).other W391 (Or.inr (slot_ne (Or.inl (hw _ (List.mem_of_getElem? (i := 19) rfl))) (Or.inl (hw _ (List.mem_of_getElem? (i := 28) rfl))) (by decide) (t := (.array .byte)) (t' := .int) (by decide) (by decide))))
              obtain ⟨T396, h396, X396, e396, W396, st396⟩ := putF X391 hx hZ hown (host := "") (Or.inl (hw _ (List.mem_of_getElem? (i := 18) rfl))) Via.refl e391 f395 f394 (Or.inl (hw _ (List.mem_of_getElem? (i := 19) rfl))) (hw _ (List.mem_of_getElem? (i := 9) rfl)) (ty := (.array .byte)) (by decide) rfl rfl (g := (mkF m 292 #[.val (.ref ax), .val (.ref tx), .val (.int nn), .val (.int ((ff + (1 : Int32)) + (1 : Int32))), .val (.int (ff + (1 : Int32))), .val (.int (1 : Int32)), .val (.ref wb), .val (.int (1 : Int32)), .val (.int (tt (((ff + (1 : Int32)) + (1 : Int32))).toNatClampNeg)), .val (.int (own_a (tt (((ff + (1 : Int32)) + (1 : Int32))).toNatClampNeg)))] [(.ref wb), (.ref ax)])) rfl rfl (hb hby d6_292)
              have N396 := Fr.snoc X396 N391 gax
              have fw396 := f395.same W396
              have G397 : Go p e below A0 (T396.setTop (mkF m 295 #[.val (.ref ax), .val (.ref tx), .val (.int nn), .val (.int ((ff + (1 : Int32)) + (1 : Int32))), .val (.int (ff + (1 : Int32))), .val (.int (1 : Int32)), .val (.ref wb), .val (.int (1 : Int32)), .val (.int (tt (((ff + (1 : Int32)) + (1 : Int32))).toNatClampNeg)), .val (.int (own_a (tt (((ff + (1 : Int32)) + (1 : Int32))).toNatClampNeg)))] [])) := fun tq kq => G393 tq (st396 _ kq)
              have G398 : Go p e below A0 (T396.setTop (mkF m 298 #[.val (.ref ax), .val (.ref tx), .val (.int nn), .val (.int ((ff + (1 : Int32)) + (1 : Int32))), .val (.int (ff + (1 : Int32))), .val (.int (1 : Int32)), .val (.ref wb), .val (.int (1 : Int32)), .val (.int (tt (((ff + (1 : Int32)) + (1 : Int32))).toNatClampNeg)), .val (.int (own_a (tt (((ff + (1 : Int32)) + (1 : Int32))).toNatClampNeg)))] [(.int (1 : Int32)), (.ref ax)])) := fun tq kq => G397 tq (by
                refine XS.aloadN X396.here hx rfl (hb hby d6_295) rfl rfl ?_
                show Steps p.tables e below (T396.setTop (mkF m 296 #[.val (.ref ax), .val (.ref tx), .val (.int nn), .val (.int ((ff + (1 : Int32)) + (1 : Int32))), .val (.int (ff + (1 : Int32))), .val (.int (1 : Int32)), .val (.ref wb), .val (.int (1 : Int32)), .val (.int (tt (((ff + (1 : Int32)) + (1 : Int32))).toNatClampNeg)), .val (.int (own_a (tt (((ff + (1 : Int32)) + (1 : Int32))).toNatClampNeg)))] [(.ref ax)])) _
                refine XS.iload X396.here hx rfl (hb hby d6_296) rfl ?_
                show Steps p.tables e below (T396.setTop (mkF m 298 #[.val (.ref ax), .val (.ref tx), .val (.int nn), .val (.int ((ff + (1 : Int32)) + (1 : Int32))), .val (.int (ff + (1 : Int32))), .val (.int (1 : Int32)), .val (.ref wb), .val (.int (1 : Int32)), .val (.int (tt (((ff + (1 : Int32)) + (1 : Int32))).toNatClampNeg)), .val (.int (own_a (tt (((ff + (1 : Int32)) + (1 : Int32))).toNatClampNeg)))] [(.int (1 : Int32)), (.ref ax)])) _
                exact kq)
              have f399 := (f394.wr W396)
              have f400 := ((((F_length.other W318 (Or.inr (slot_ne (Or.inl (hw _ (List.mem_of_getElem? (i := 32) rfl))) (Or.inl (hw _ (List.mem_of_getElem? (i := 28) rfl))) (by decide) (t := .int) (t' := .int) (by decide) (by decide)))).other W342 (Or.inl haw)).other W391 (Or.inr (slot_ne (Or.inl (hw _ (List.mem_of_getElem? (i := 32) rfl))) (Or.inl (hw _ (List.mem_of_getElem? (i := 28) rfl))) (by decide) (t := .int) (t' := .int) (by decide) (by decide)))).other W396 (Or.inr (slot_ne (Or.inl (hw _ (List.mem_of_getElem? (i := 32) rfl))) (Or.inl (hw _ (List.mem_of_getElem? (i := 19) rfl))) (by decide) (t := .int) (t' := (.array .byte)) (by decide) (by decide))))
              obtain ⟨T401, h401, X401, e401, W401, st401⟩ := putF X396 hx hZ hown (host := "") (Or.inl (hw _ (List.mem_of_getElem? (i := 31) rfl))) Via.refl e396 f400 f399 (Or.inl (hw _ (List.mem_of_getElem? (i := 32) rfl))) (hw _ (List.mem_of_getElem? (i := 9) rfl)) (ty := .int) (by decide) rfl rfl (g := (mkF m 298 #[.val (.ref ax), .val (.ref tx), .val (.int nn), .val (.int ((ff + (1 : Int32)) + (1 : Int32))), .val (.int (ff + (1 : Int32))), .val (.int (1 : Int32)), .val (.ref wb), .val (.int (1 : Int32)), .val (.int (tt (((ff + (1 : Int32)) + (1 : Int32))).toNatClampNeg)), .val (.int (own_a (tt (((ff + (1 : Int32)) + (1 : Int32))).toNatClampNeg)))] [(.int (1 : Int32)), (.ref ax)])) rfl rfl (hb hby d6_298)
              have N401 := Fr.snoc X401 N396 gax
              have fw401 := f400.same W401
              have G402 : Go p e below A0 (T401.setTop (mkF m 301 #[.val (.ref ax), .val (.ref tx), .val (.int nn), .val (.int ((ff + (1 : Int32)) + (1 : Int32))), .val (.int (ff + (1 : Int32))), .val (.int (1 : Int32)), .val (.ref wb), .val (.int (1 : Int32)), .val (.int (tt (((ff + (1 : Int32)) + (1 : Int32))).toNatClampNeg)), .val (.int (own_a (tt (((ff + (1 : Int32)) + (1 : Int32))).toNatClampNeg)))] [])) := fun tq kq => G398 tq (st401 _ kq)
              have G403 : Go p e below A0 (T401.setTop (mkF m 302 #[.val (.ref ax), .val (.ref tx), .val (.int nn), .val (.int ((ff + (1 : Int32)) + (1 : Int32))), .val (.int (ff + (1 : Int32))), .val (.int (1 : Int32)), .val (.ref wb), .val (.int (1 : Int32)), .val (.int (tt (((ff + (1 : Int32)) + (1 : Int32))).toNatClampNeg)), .val (.int (own_a (tt (((ff + (1 : Int32)) + (1 : Int32))).toNatClampNeg)))] [(.int (1 : Int32))])) := fun tq kq => G402 tq (by
                refine XS.iconst X401.here hx rfl (hb hby d6_301) ?_
                show Steps p.tables e below (T401.setTop (mkF m 302 #[.val (.ref ax), .val (.ref tx), .val (.int nn), .val (.int ((ff + (1 : Int32)) + (1 : Int32))), .val (.int (ff + (1 : Int32))), .val (.int (1 : Int32)), .val (.ref wb), .val (.int (1 : Int32)), .val (.int (tt (((ff + (1 : Int32)) + (1 : Int32))).toNatClampNeg)), .val (.int (own_a (tt (((ff + (1 : Int32)) + (1 : Int32))).toNatClampNeg)))] [(.int (1 : Int32))])) _
                exact kq)
              have f404 := (((((F_text.other W318 (Or.inr (slot_ne (Or.inl (hw _ (List.mem_of_getElem? (i := 26) rfl))) (Or.inl (hw _ (List.mem_of_getElem? (i := 28) rfl))) (by decide) (t := (.array .char)) (t' := .int) (by decide) (by decide)))).other W342 (Or.inl haw)).other W391 (Or.inr (slot_ne (Or.inl (hw _ (List.mem_of_getElem? (i := 26) rfl))) (Or.inl (hw _ (List.mem_of_getElem? (i := 28) rfl))) (by decide) (t := (.array .char)) (t' := .int) (by decide) (by decide)))).other W396 (Or.inr (slot_ne (Or.inl (hw _ (List.mem_of_getElem? (i := 26) rfl))) (Or.inl (hw _ (List.mem_of_getElem? (i := 19) rfl))) (by decide) (t := (.array .char)) (t' := (.array .byte)) (by decide) (by decide)))).other W401 (Or.inr (slot_ne (Or.inl (hw _ (List.mem_of_getElem? (i := 26) rfl))) (Or.inl (hw _ (List.mem_of_getElem? (i := 32) rfl))) (by decide) (t := (.array .char)) (t' := .int) (by decide) (by decide))))
              have f405 := ((fw391.other W396 (Or.inr (slot_ne (Or.inl (hw _ (List.mem_of_getElem? (i := 28) rfl))) (Or.inl (hw _ (List.mem_of_getElem? (i := 19) rfl))) (by decide) (t := .int) (t' := (.array .byte)) (by decide) (by decide)))).other W401 (Or.inr (slot_ne (Or.inl (hw _ (List.mem_of_getElem? (i := 28) rfl))) (Or.inl (hw _ (List.mem_of_getElem? (i := 32) rfl))) (by decide) (t := .int) (t' := .int) (by decide) (by decide))))
              have f406 := (((((F_to.other W318 (Or.inr (slot_ne (Or.inl (hw _ (List.mem_of_getElem? (i := 30) rfl))) (Or.inl (hw _ (List.mem_of_getElem? (i := 28) rfl))) (by decide) (t := .int) (t' := .int) (by decide) (by decide)))).other W342 (Or.inl haw)).other W391 (Or.inr (slot_ne (Or.inl (hw _ (List.mem_of_getElem? (i := 30) rfl))) (Or.inl (hw _ (List.mem_of_getElem? (i := 28) rfl))) (by decide) (t := .int) (t' := .int) (by decide) (by decide)))).other W396 (Or.inr (slot_ne (Or.inl (hw _ (List.mem_of_getElem? (i := 30) rfl))) (Or.inl (hw _ (List.mem_of_getElem? (i := 19) rfl))) (by decide) (t := .int) (t' := (.array .byte)) (by decide) (by decide)))).other W401 (Or.inr (slot_ne (Or.inl (hw _ (List.mem_of_getElem? (i := 30) rfl))) (Or.inl (hw _ (List.mem_of_getElem? (i := 32) rfl))) (by decide) (t := .int) (t' := .int) (by decide) (by decide))))
              have f407 := (fw396.other W401 (Or.inr (slot_ne (Or.inl (hw _ (List.mem_of_getElem? (i := 19) rfl))) (Or.inl (hw _ (List.mem_of_getElem? (i := 32) rfl))) (by decide) (t := (.array .byte)) (t' := .int) (by decide) (by decide))))
              have f408 := (((V342.other W391 (Ne.symm haw)).other W396 (Ne.symm haw)).other W401 (Ne.symm haw))
              have e1 : sv = (ff + (1 : Int32)) := by rw [hS]; simp only [own_b, own_st, hc112, hc124, hc304, hc316, hc345, mi350, hc359, not_true_eq_false, not_false_eq_true, if_true, if_false, or_true, true_or, or_false, false_or, and_true, true_and, and_false, false_and, and_self, or_self]
              have e2 : ev = ((ff + (1 : Int32)) + (1 : Int32)) := by rw [hE, e1]; simp only [own_b, own_en, hc112, hc124, hc304, hc316, hc345, mi350, hc359, not_true_eq_false, not_false_eq_true, if_true, if_false, or_true, true_or, or_false, false_or, and_true, true_and, and_false, false_and, and_self, or_self]
              obtain ⟨fs, hr, hrun, hended, hW, hsame⟩ := X401.leave (v := some (.int (nar .boolean (1 : Int32)))) (fun h => by rw [Bd.returns] at h; cases h)
              refine ⟨_, _, (by rw [← hA0]; exact G403 _ (retN X401 hx (t := .boolean) Bd.returns (by simp) (hb hby d6_302) hr)), hrun, hended, _, _, rfl, ?_, ⟨_, rfl⟩, hW, hsame.mono (by decide) (by decide)⟩
              show Qnx Z ax tx wb tt nn sv ev kw h0 n0 _ T401.heap _
              rw [e401]
              rw [e1, e2]
              exact ⟨(own_up gw 0 (own_a (tt ((ff + (1 : Int32))).toNatClampNeg))), (by rw [own_bt (own_ltne hc304)]; rfl), N401, ((((((Keep.refl h0 [ax, wb]).wr W318 (Or.inl (List.mem_of_getElem? (i := 0) rfl))).wr W342 (Or.inl (List.mem_of_getElem? (i := 1) rfl))).wr W391 (Or.inl (List.mem_of_getElem? (i := 0) rfl))).wr W396 (Or.inl (List.mem_of_getElem? (i := 0) rfl))).wr W401 (Or.inl (List.mem_of_getElem? (i := 0) rfl))), f404, f405, f406, (by rw [← own_d1]; exact fw401), f407, f408, own_ct1 zi116 (own_le3 li116 hn3) hc316⟩
          · have G409 : Go p e below A0 (T342.setTop (mkF m 286 #[.val (.ref ax), .val (.ref tx), .val (.int nn), .val (.int ((ff + (1 : Int32)) + (1 : Int32))), .val (.int (ff + (1 : Int32))), .val (.int (1 : Int32)), .val (.ref wb), .val (.int (1 : Int32)), .val (.int (tt ((ff + (1 : Int32))).toNatClampNeg)), .val (.int (own_a (tt ((ff + (1 : Int32))).toNatClampNeg)))] [(.int ((ff + (1 : Int32)) + (1 : Int32))), (.ref ax)])) := fun tq kq => G344 tq (by
              refine XS.icmpYes X342.here hx rfl (pc0 := 116) (pc' := 216) rfl (hb hby d6_116) rfl (flt hc345).2.1 (by decide) (by decide) ?_
              show Steps p.tables e below (T342.setTop (mkF m 216 #[.val (.ref ax), .val (.ref tx), .val (.int nn), .val (.int ((ff + (1 : Int32)) + (1 : Int32))), .val (.int (ff + (1 : Int32))), .val (.int (1 : Int32)), .val (.ref wb), .val (.int (1 : Int32)), .val (.int (tt ((ff + (1 : Int32))).toNatClampNeg)), .val (.int (own_a (tt ((ff + (1 : Int32))).toNatClampNeg)))] [])) _
              refine XS.iload X342.here hx rfl (hb hby d6_216) rfl ?_
              show Steps p.tables e below (T342.setTop (mkF m 218 #[.val (.ref ax), .val (.ref tx), .val (.int nn), .val (.int ((ff + (1 : Int32)) + (1 : Int32))), .val (.int (ff + (1 : Int32))), .val (.int (1 : Int32)), .val (.ref wb), .val (.int (1 : Int32)), .val (.int (tt ((ff + (1 : Int32))).toNatClampNeg)), .val (.int (own_a (tt ((ff + (1 : Int32))).toNatClampNeg)))] [(.int (1 : Int32))])) _
              refine XS.ifYes X342.here hx rfl (pc0 := 218) (pc' := 284) rfl (hb hby d6_218) rfl (by decide) (by decide) (by decide) ?_
              show Steps p.tables e below (T342.setTop (mkF m 284 #[.val (.ref ax), .val (.ref tx), .val (.int nn), .val (.int ((ff + (1 : Int32)) + (1 : Int32))), .val (.int (ff + (1 : Int32))), .val (.int (1 : Int32)), .val (.ref wb), .val (.int (1 : Int32)), .val (.int (tt ((ff + (1 : Int32))).toNatClampNeg)), .val (.int (own_a (tt ((ff + (1 : Int32))).toNatClampNeg)))] [])) _
              refine XS.aloadN X342.here hx rfl (hb hby d6_284) rfl rfl ?_
              show Steps p.tables e below (T342.setTop (mkF m 285 #[.val (.ref ax), .val (.ref tx), .val (.int nn), .val (.int ((ff + (1 : Int32)) + (1 : Int32))), .val (.int (ff + (1 : Int32))), .val (.int (1 : Int32)), .val (.ref wb), .val (.int (1 : Int32)), .val (.int (tt ((ff + (1 : Int32))).toNatClampNeg)), .val (.int (own_a (tt ((ff + (1 : Int32))).toNatClampNeg)))] [(.ref ax)])) _
              refine XS.iloadN X342.here hx rfl (hb hby d6_285) rfl ?_
              show Steps p.tables e below (T342.setTop (mkF m 286 #[.val (.ref ax), .val (.ref tx), .val (.int nn), .val (.int ((ff + (1 : Int32)) + (1 : Int32))), .val (.int (ff + (1 : Int32))), .val (.int (1 : Int32)), .val (.ref wb), .val (.int (1 : Int32)), .val (.int (tt ((ff + (1 : Int32))).toNatClampNeg)), .val (.int (own_a (tt ((ff + (1 : Int32))).toNatClampNeg)))] [(.int ((ff + (1 : Int32)) + (1 : Int32))), (.ref ax)])) _
              exact kq)
            have f410 := ((E.wr W318).wr W342)
            have f411 := (fw318.other W342 (Or.inl haw))
            obtain ⟨T412, h412, X412, e412, W412, st412⟩ := putF X342 hx hZ hown (host := "") (Or.inl (hw _ (List.mem_of_getElem? (i := 27) rfl))) Via.refl e342 f411 f410 (Or.inl (hw _ (List.mem_of_getElem? (i := 28) rfl))) (hw _ (List.mem_of_getElem? (i := 9) rfl)) (ty := .int) (by decide) rfl rfl (g := (mkF m 286 #[.val (.ref ax), .val (.ref tx), .val (.int nn), .val (.int ((ff + (1 : Int32)) + (1 : Int32))), .val (.int (ff + (1 : Int32))), .val (.int (1 : Int32)), .val (.ref wb), .val (.int (1 : Int32)), .val (.int (tt ((ff + (1 : Int32))).toNatClampNeg)), .val (.int (own_a (tt ((ff + (1 : Int32))).toNatClampNeg)))] [(.int ((ff + (1 : Int32)) + (1 : Int32))), (.ref ax)])) rfl rfl (hb hby d6_286)
            have N412 := Fr.snoc X412 N342 gax
            have fw412 := f411.same W412
            have G413 : Go p e below A0 (T412.setTop (mkF m 289 #[.val (.ref ax), .val (.ref tx), .val (.int nn), .val (.int ((ff + (1 : Int32)) + (1 : Int32))), .val (.int (ff + (1 : Int32))), .val (.int (1 : Int32)), .val (.ref wb), .val (.int (1 : Int32)), .val (.int (tt ((ff + (1 : Int32))).toNatClampNeg)), .val (.int (own_a (tt ((ff + (1 : Int32))).toNatClampNeg)))] [])) := fun tq kq => G409 tq (st412 _ kq)
            have G414 : Go p e below A0 (T412.setTop (mkF m 292 #[.val (.ref ax), .val (.ref tx), .val (.int nn), .val (.int ((ff + (1 : Int32)) + (1 : Int32))), .val (.int (ff + (1 : Int32))), .val (.int (1 : Int32)), .val (.ref wb), .val (.int (1 : Int32)), .val (.int (tt ((ff + (1 : Int32))).toNatClampNeg)), .val (.int (own_a (tt ((ff + (1 : Int32))).toNatClampNeg)))] [(.ref wb), (.ref ax)])) := fun tq kq => G413 tq (by
              refine XS.aloadN X412.here hx rfl (hb hby d6_289) rfl rfl ?_
              show Steps p.tables e below (T412.setTop (mkF m 290 #[.val (.ref ax), .val (.ref tx), .val (.int nn), .val (.int ((ff + (1 : Int32)) + (1 : Int32))), .val (.int (ff + (1 : Int32))), .val (.int (1 : Int32)), .val (.ref wb), .val (.int (1 : Int32)), .val (.int (tt ((ff + (1 : Int32))).toNatClampNeg)), .val (.int (own_a (tt ((ff + (1 : Int32))).toNatClampNeg)))] [(.ref ax)])) _
              refine XS.aload X412.here hx rfl (hb hby d6_290) rfl rfl ?_
              show Steps p.tables e below (T412.setTop (mkF m 292 #[.val (.ref ax), .val (.ref tx), .val (.int nn), .val (.int ((ff + (1 : Int32)) + (1 : Int32))), .val (.int (ff + (1 : Int32))), .val (.int (1 : Int32)), .val (.ref wb), .val (.int (1 : Int32)), .val (.int (tt ((ff + (1 : Int32))).toNatClampNeg)), .val (.int (own_a (tt ((ff + (1 : Int32))).toNatClampNeg)))] [(.ref wb), (.ref ax)])) _
              exact kq)
            have f415 := (f410.wr W412)
            have f416 := ((f321.other W342 (Or.inl haw)).other W412 (Or.inr (slot_ne (Or.inl (hw _ (List.mem_of_getElem? (i := 19) rfl))) (Or.inl (hw _ (List.mem_of_getElem? (i := 28) rfl))) (by decide) (t := (.array .byte)) (t' := .int) (by decide) (by decide))))
            obtain ⟨T417, h417, X417, e417, W417, st417⟩ := putF X412 hx hZ hown (host := "") (Or.inl (hw _ (List.mem_of_getElem? (i := 18) rfl))) Via.refl e412 f416 f415 (Or.inl (hw _ (List.mem_of_getElem? (i := 19) rfl))) (hw _ (List.mem_of_getElem? (i := 9) rfl)) (ty := (.array .byte)) (by decide) rfl rfl (g := (mkF m 292 #[.val (.ref ax), .val (.ref tx), .val (.int nn), .val (.int ((ff + (1 : Int32)) + (1 : Int32))), .val (.int (ff + (1 : Int32))), .val (.int (1 : Int32)), .val (.ref wb), .val (.int (1 : Int32)), .val (.int (tt ((ff + (1 : Int32))).toNatClampNeg)), .val (.int (own_a (tt ((ff + (1 : Int32))).toNatClampNeg)))] [(.ref wb), (.ref ax)])) rfl rfl (hb hby d6_292)
            have N417 := Fr.snoc X417 N412 gax
            have fw417 := f416.same W417
            have G418 : Go p e below A0 (T417.setTop (mkF m 295 #[.val (.ref ax), .val (.ref tx), .val (.int nn), .val (.int ((ff + (1 : Int32)) + (1 : Int32))), .val (.int (ff + (1 : Int32))), .val (.int (1 : Int32)), .val (.ref wb), .val (.int (1 : Int32)), .val (.int (tt ((ff + (1 : Int32))).toNatClampNeg)), .val (.int (own_a (tt ((ff + (1 : Int32))).toNatClampNeg)))] [])) := fun tq kq => G414 tq (st417 _ kq)
            have G419 : Go p e below A0 (T417.setTop (mkF m 298 #[.val (.ref ax), .val (.ref tx), .val (.int nn), .val (.int ((ff + (1 : Int32)) + (1 : Int32))), .val (.int (ff + (1 : Int32))), .val (.int (1 : Int32)), .val (.ref wb), .val (.int (1 : Int32)), .val (.int (tt ((ff + (1 : Int32))).toNatClampNeg)), .val (.int (own_a (tt ((ff + (1 : Int32))).toNatClampNeg)))] [(.int (1 : Int32)), (.ref ax)])) := fun tq kq => G418 tq (by
              refine XS.aloadN X417.here hx rfl (hb hby d6_295) rfl rfl ?_
              show Steps p.tables e below (T417.setTop (mkF m 296 #[.val (.ref ax), .val (.ref tx), .val (.int nn), .val (.int ((ff + (1 : Int32)) + (1 : Int32))), .val (.int (ff + (1 : Int32))), .val (.int (1 : Int32)), .val (.ref wb), .val (.int (1 : Int32)), .val (.int (tt ((ff + (1 : Int32))).toNatClampNeg)), .val (.int (own_a (tt ((ff + (1 : Int32))).toNatClampNeg)))] [(.ref ax)])) _
              refine XS.iload X417.here hx rfl (hb hby d6_296) rfl ?_
              show Steps p.tables e below (T417.setTop (mkF m 298 #[.val (.ref ax), .val (.ref tx), .val (.int nn), .val (.int ((ff + (1 : Int32)) + (1 : Int32))), .val (.int (ff + (1 : Int32))), .val (.int (1 : Int32)), .val (.ref wb), .val (.int (1 : Int32)), .val (.int (tt ((ff + (1 : Int32))).toNatClampNeg)), .val (.int (own_a (tt ((ff + (1 : Int32))).toNatClampNeg)))] [(.int (1 : Int32)), (.ref ax)])) _
              exact kq)
            have f420 := (f415.wr W417)
            have f421 := ((((F_length.other W318 (Or.inr (slot_ne (Or.inl (hw _ (List.mem_of_getElem? (i := 32) rfl))) (Or.inl (hw _ (List.mem_of_getElem? (i := 28) rfl))) (by decide) (t := .int) (t' := .int) (by decide) (by decide)))).other W342 (Or.inl haw)).other W412 (Or.inr (slot_ne (Or.inl (hw _ (List.mem_of_getElem? (i := 32) rfl))) (Or.inl (hw _ (List.mem_of_getElem? (i := 28) rfl))) (by decide) (t := .int) (t' := .int) (by decide) (by decide)))).other W417 (Or.inr (slot_ne (Or.inl (hw _ (List.mem_of_getElem? (i := 32) rfl))) (Or.inl (hw _ (List.mem_of_getElem? (i := 19) rfl))) (by decide) (t := .int) (t' := (.array .byte)) (by decide) (by decide))))
            obtain ⟨T422, h422, X422, e422, W422, st422⟩ := putF X417 hx hZ hown (host := "") (Or.inl (hw _ (List.mem_of_getElem? (i := 31) rfl))) Via.refl e417 f421 f420 (Or.inl (hw _ (List.mem_of_getElem? (i := 32) rfl))) (hw _ (List.mem_of_getElem? (i := 9) rfl)) (ty := .int) (by decide) rfl rfl (g := (mkF m 298 #[.val (.ref ax), .val (.ref tx), .val (.int nn), .val (.int ((ff + (1 : Int32)) + (1 : Int32))), .val (.int (ff + (1 : Int32))), .val (.int (1 : Int32)), .val (.ref wb), .val (.int (1 : Int32)), .val (.int (tt ((ff + (1 : Int32))).toNatClampNeg)), .val (.int (own_a (tt ((ff + (1 : Int32))).toNatClampNeg)))] [(.int (1 : Int32)), (.ref ax)])) rfl rfl (hb hby d6_298)
            have N422 := Fr.snoc X422 N417 gax
            have fw422 := f421.same W422
            have G423 : Go p e below A0 (T422.setTop (mkF m 301 #[.val (.ref ax), .val (.ref tx), .val (.int nn), .val (.int ((ff + (1 : Int32)) + (1 : Int32))), .val (.int (ff + (1 : Int32))), .val (.int (1 : Int32)), .val (.ref wb), .val (.int (1 : Int32)), .val (.int (tt ((ff + (1 : Int32))).toNatClampNeg)), .val (.int (own_a (tt ((ff + (1 : Int32))).toNatClampNeg)))] [])) := fun tq kq => G419 tq (st422 _ kq)
            have G424 : Go p e below A0 (T422.setTop (mkF m 302 #[.val (.ref ax), .val (.ref tx), .val (.int nn), .val (.int ((ff + (1 : Int32)) + (1 : Int32))), .val (.int (ff + (1 : Int32))), .val (.int (1 : Int32)), .val (.ref wb), .val (.int (1 : Int32)), .val (.int (tt ((ff + (1 : Int32))).toNatClampNeg)), .val (.int (own_a (tt ((ff + (1 : Int32))).toNatClampNeg)))] [(.int (1 : Int32))])) := fun tq kq => G423 tq (by
              refine XS.iconst X422.here hx rfl (hb hby d6_301) ?_
              show Steps p.tables e below (T422.setTop (mkF m 302 #[.val (.ref ax), .val (.ref tx), .val (.int nn), .val (.int ((ff + (1 : Int32)) + (1 : Int32))), .val (.int (ff + (1 : Int32))), .val (.int (1 : Int32)), .val (.ref wb), .val (.int (1 : Int32)), .val (.int (tt ((ff + (1 : Int32))).toNatClampNeg)), .val (.int (own_a (tt ((ff + (1 : Int32))).toNatClampNeg)))] [(.int (1 : Int32))])) _
              exact kq)
            have f425 := (((((F_text.other W318 (Or.inr (slot_ne (Or.inl (hw _ (List.mem_of_getElem? (i := 26) rfl))) (Or.inl (hw _ (List.mem_of_getElem? (i := 28) rfl))) (by decide) (t := (.array .char)) (t' := .int) (by decide) (by decide)))).other W342 (Or.inl haw)).other W412 (Or.inr (slot_ne (Or.inl (hw _ (List.mem_of_getElem? (i := 26) rfl))) (Or.inl (hw _ (List.mem_of_getElem? (i := 28) rfl))) (by decide) (t := (.array .char)) (t' := .int) (by decide) (by decide)))).other W417 (Or.inr (slot_ne (Or.inl (hw _ (List.mem_of_getElem? (i := 26) rfl))) (Or.inl (hw _ (List.mem_of_getElem? (i := 19) rfl))) (by decide) (t := (.array .char)) (t' := (.array .byte)) (by decide) (by decide)))).other W422 (Or.inr (slot_ne (Or.inl (hw _ (List.mem_of_getElem? (i := 26) rfl))) (Or.inl (hw _ (List.mem_of_getElem? (i := 32) rfl))) (by decide) (t := (.array .char)) (t' := .int) (by decide) (by decide))))
            have f426 := ((fw412.other W417 (Or.inr (slot_ne (Or.inl (hw _ (List.mem_of_getElem? (i := 28) rfl))) (Or.inl (hw _ (List.mem_of_getElem? (i := 19) rfl))) (by decide) (t := .int) (t' := (.array .byte)) (by decide) (by decide)))).other W422 (Or.inr (slot_ne (Or.inl (hw _ (List.mem_of_getElem? (i := 28) rfl))) (Or.inl (hw _ (List.mem_of_getElem? (i := 32) rfl))) (by decide) (t := .int) (t' := .int) (by decide) (by decide))))
            have f427 := (((((F_to.other W318 (Or.inr (slot_ne (Or.inl (hw _ (List.mem_of_getElem? (i := 30) rfl))) (Or.inl (hw _ (List.mem_of_getElem? (i := 28) rfl))) (by decide) (t := .int) (t' := .int) (by decide) (by decide)))).other W342 (Or.inl haw)).other W412 (Or.inr (slot_ne (Or.inl (hw _ (List.mem_of_getElem? (i := 30) rfl))) (Or.inl (hw _ (List.mem_of_getElem? (i := 28) rfl))) (by decide) (t := .int) (t' := .int) (by decide) (by decide)))).other W417 (Or.inr (slot_ne (Or.inl (hw _ (List.mem_of_getElem? (i := 30) rfl))) (Or.inl (hw _ (List.mem_of_getElem? (i := 19) rfl))) (by decide) (t := .int) (t' := (.array .byte)) (by decide) (by decide)))).other W422 (Or.inr (slot_ne (Or.inl (hw _ (List.mem_of_getElem? (i := 30) rfl))) (Or.inl (hw _ (List.mem_of_getElem? (i := 32) rfl))) (by decide) (t := .int) (t' := .int) (by decide) (by decide))))
            have f428 := (fw417.other W422 (Or.inr (slot_ne (Or.inl (hw _ (List.mem_of_getElem? (i := 19) rfl))) (Or.inl (hw _ (List.mem_of_getElem? (i := 32) rfl))) (by decide) (t := (.array .byte)) (t' := .int) (by decide) (by decide))))
            have f429 := (((V342.other W412 (Ne.symm haw)).other W417 (Ne.symm haw)).other W422 (Ne.symm haw))
            have e1 : sv = (ff + (1 : Int32)) := by rw [hS]; simp only [own_b, own_st, hc112, hc124, hc304, hc316, hc345, not_true_eq_false, not_false_eq_true, if_true, if_false, or_true, true_or, or_false, false_or, and_true, true_and, and_false, false_and, and_self, or_self]
            have e2 : ev = ((ff + (1 : Int32)) + (1 : Int32)) := by rw [hE, e1]; simp only [own_b, own_en, hc112, hc124, hc304, hc316, hc345, not_true_eq_false, not_false_eq_true, if_true, if_false, or_true, true_or, or_false, false_or, and_true, true_and, and_false, false_and, and_self, or_self]
            obtain ⟨fs, hr, hrun, hended, hW, hsame⟩ := X422.leave (v := some (.int (nar .boolean (1 : Int32)))) (fun h => by rw [Bd.returns] at h; cases h)
            refine ⟨_, _, (by rw [← hA0]; exact G424 _ (retN X422 hx (t := .boolean) Bd.returns (by simp) (hb hby d6_302) hr)), hrun, hended, _, _, rfl, ?_, ⟨_, rfl⟩, hW, hsame.mono (by decide) (by decide)⟩
            show Qnx Z ax tx wb tt nn sv ev kw h0 n0 _ T422.heap _
            rw [e422]
            rw [e1, e2]
            exact ⟨(own_up gw 0 (own_a (tt ((ff + (1 : Int32))).toNatClampNeg))), (by rw [own_bt (own_ltne hc304)]; rfl), N422, ((((((Keep.refl h0 [ax, wb]).wr W318 (Or.inl (List.mem_of_getElem? (i := 0) rfl))).wr W342 (Or.inl (List.mem_of_getElem? (i := 1) rfl))).wr W412 (Or.inl (List.mem_of_getElem? (i := 0) rfl))).wr W417 (Or.inl (List.mem_of_getElem? (i := 0) rfl))).wr W422 (Or.inl (List.mem_of_getElem? (i := 0) rfl))), f425, f426, f427, (by rw [← own_d1]; exact fw422), f428, f429, own_ct1 zi116 (own_le3 li116 hn3) hc316⟩
        · have G430 : Go p e below A0 (T310.setTop (mkF m 17 #[.val (.ref ax), .val (.ref tx), .val (.int nn), .val (.int ((ff + (1 : Int32)) + (1 : Int32))), .val (.int (tt ((ff + (1 : Int32))).toNatClampNeg)), .unset, .unset, .unset, .unset, .unset] [(.int nn), (.int ((ff + (1 : Int32)) + (1 : Int32)))])) := fun tq kq => G315 tq (by
            refine XS.ifYes X310.here hx rfl (pc0 := 39) (pc' := 60) rfl (hb hby d6_39) rfl ((if0 _ _).trans (teq (own_a0 hc316)).1) (by decide) (by decide) ?_
            show Steps p.tables e below (T310.setTop (mkF m 60 #[.val (.ref ax), .val (.ref tx), .val (.int nn), .val (.int (ff + (1 : Int32))), .val (.int (tt ((ff + (1 : Int32))).toNatClampNeg)), .unset, .unset, .unset, .unset, .unset] [])) _
            refine XS.iloadN X310.here hx rfl (hb hby d6_60) rfl ?_
            show Steps p.tables e below (T310.setTop (mkF m 61 #[.val (.ref ax), .val (.ref tx), .val (.int nn), .val (.int (ff + (1 : Int32))), .val (.int (tt ((ff + (1 : Int32))).toNatClampNeg)), .unset, .unset, .unset, .unset, .unset] [(.int (ff + (1 : Int32)))])) _
            refine XS.iload X310.here hx rfl (hb hby d6_61) rfl ?_
            show Steps p.tables e below (T310.setTop (mkF m 63 #[.val (.ref ax), .val (.ref tx), .val (.int nn), .val (.int (ff + (1 : Int32))), .val (.int (tt ((ff + (1 : Int32))).toNatClampNeg)), .unset, .unset, .unset, .unset, .unset] [(.int (tt ((ff + (1 : Int32))).toNatClampNeg)), (.int (ff + (1 : Int32)))])) _
            refine XS.sipush X310.here hx rfl (hb hby d6_63) ?_
            show Steps p.tables e below (T310.setTop (mkF m 66 #[.val (.ref ax), .val (.ref tx), .val (.int nn), .val (.int (ff + (1 : Int32))), .val (.int (tt ((ff + (1 : Int32))).toNatClampNeg)), .unset, .unset, .unset, .unset, .unset] [(.int (128 : Int32)), (.int (tt ((ff + (1 : Int32))).toNatClampNeg)), (.int (ff + (1 : Int32)))])) _
            refine XS.icmpNo X310.here hx rfl (hb hby d6_66) rfl (tlt ri308.2).2.1 ?_
            show Steps p.tables e below (T310.setTop (mkF m 69 #[.val (.ref ax), .val (.ref tx), .val (.int nn), .val (.int (ff + (1 : Int32))), .val (.int (tt ((ff + (1 : Int32))).toNatClampNeg)), .unset, .unset, .unset, .unset, .unset] [(.int (ff + (1 : Int32)))])) _
            refine XS.iconst X310.here hx rfl (hb hby d6_69) ?_
            show Steps p.tables e below (T310.setTop (mkF m 70 #[.val (.ref ax), .val (.ref tx), .val (.int nn), .val (.int (ff + (1 : Int32))), .val (.int (tt ((ff + (1 : Int32))).toNatClampNeg)), .unset, .unset, .unset, .unset, .unset] [(.int (1 : Int32)), (.int (ff + (1 : Int32)))])) _
            refine XS.goto X310.here hx rfl (pc0 := 70) (pc' := 82) rfl (hb hby d6_70) (by decide) (by decide) ?_
            show Steps p.tables e below (T310.setTop (mkF m 82 #[.val (.ref ax), .val (.ref tx), .val (.int nn), .val (.int (ff + (1 : Int32))), .val (.int (tt ((ff + (1 : Int32))).toNatClampNeg)), .unset, .unset, .unset, .unset, .unset] [(.int (1 : Int32)), (.int (ff + (1 : Int32)))])) _
            refine XS.iadd X310.here hx rfl (hb hby d6_82) rfl ?_
            show Steps p.tables e below (T310.setTop (mkF m 83 #[.val (.ref ax), .val (.ref tx), .val (.int nn), .val (.int (ff + (1 : Int32))), .val (.int (tt ((ff + (1 : Int32))).toNatClampNeg)), .unset, .unset, .unset, .unset, .unset] [(.int ((ff + (1 : Int32)) + (1 : Int32)))])) _
            refine XS.istoreN X310.here hx rfl (hb hby d6_83) rfl (l' := #[.val (.ref ax), .val (.ref tx), .val (.int nn), .val (.int ((ff + (1 : Int32)) + (1 : Int32))), .val (.int (tt ((ff + (1 : Int32))).toNatClampNeg)), .unset, .unset, .unset, .unset, .unset]) rfl ?_
            show Steps p.tables e below (T310.setTop (mkF m 84 #[.val (.ref ax), .val (.ref tx), .val (.int nn), .val (.int ((ff + (1 : Int32)) + (1 : Int32))), .val (.int (tt ((ff + (1 : Int32))).toNatClampNeg)), .unset, .unset, .unset, .unset, .unset] [])) _
            refine XS.goto X310.here hx rfl (pc0 := 84) (pc' := 15) rfl (hb hby d6_84) (by decide) (by decide) ?_
            show Steps p.tables e below (T310.setTop (mkF m 15 #[.val (.ref ax), .val (.ref tx), .val (.int nn), .val (.int ((ff + (1 : Int32)) + (1 : Int32))), .val (.int (tt ((ff + (1 : Int32))).toNatClampNeg)), .unset, .unset, .unset, .unset, .unset] [])) _
            refine XS.iloadN X310.here hx rfl (hb hby d6_15) rfl ?_
            show Steps p.tables e below (T310.setTop (mkF m 16 #[.val (.ref ax), .val (.ref tx), .val (.int nn), .val (.int ((ff + (1 : Int32)) + (1 : Int32))), .val (.int (tt ((ff + (1 : Int32))).toNatClampNeg)), .unset, .unset, .unset, .unset, .unset] [(.int ((ff + (1 : Int32)) + (1 : Int32)))])) _
            refine XS.iloadN X310.here hx rfl (hb hby d6_16) rfl ?_
            show Steps p.tables e below (T310.setTop (mkF m 17 #[.val (.ref ax), .val (.ref tx), .val (.int nn), .val (.int ((ff + (1 : Int32)) + (1 : Int32))), .val (.int (tt ((ff + (1 : Int32))).toNatClampNeg)), .unset, .unset, .unset, .unset, .unset] [(.int nn), (.int ((ff + (1 : Int32)) + (1 : Int32)))])) _
            exact kq)
          by_cases hc431 : ((ff + (1 : Int32)) + (1 : Int32)) < nn
          · have G432 : Go p e below A0 (T310.setTop (mkF m 22 #[.val (.ref ax), .val (.ref tx), .val (.int nn), .val (.int ((ff + (1 : Int32)) + (1 : Int32))), .val (.int (tt ((ff + (1 : Int32))).toNatClampNeg)), .unset, .unset, .unset, .unset, .unset] [(.int ((ff + (1 : Int32)) + (1 : Int32))), (.ref tx)])) := fun tq kq => G430 tq (by
              refine XS.icmpNo X310.here hx rfl (hb hby d6_17) rfl (tlt hc431).2.1 ?_
              show Steps p.tables e below (T310.setTop (mkF m 20 #[.val (.ref ax), .val (.ref tx), .val (.int nn), .val (.int ((ff + (1 : Int32)) + (1 : Int32))), .val (.int (tt ((ff + (1 : Int32))).toNatClampNeg)), .unset, .unset, .unset, .unset, .unset] [])) _
              refine XS.aloadN X310.here hx rfl (hb hby d6_20) rfl rfl ?_
              show Steps p.tables e below (T310.setTop (mkF m 21 #[.val (.ref ax), .val (.ref tx), .val (.int nn), .val (.int ((ff + (1 : Int32)) + (1 : Int32))), .val (.int (tt ((ff + (1 : Int32))).toNatClampNeg)), .unset, .unset, .unset, .unset, .unset] [(.ref tx)])) _
              refine XS.iloadN X310.here hx rfl (hb hby d6_21) rfl ?_
              show Steps p.tables e below (T310.setTop (mkF m 22 #[.val (.ref ax), .val (.ref tx), .val (.int nn), .val (.int ((ff + (1 : Int32)) + (1 : Int32))), .val (.int (tt ((ff + (1 : Int32))).toNatClampNeg)), .unset, .unset, .unset, .unset, .unset] [(.int ((ff + (1 : Int32)) + (1 : Int32))), (.ref tx)])) _
              exact kq)
            obtain ⟨cl433, Ar433, q433, S433, M433, H433⟩ := id At
            have i435 : ¬ ((ff + (1 : Int32)) + (1 : Int32)) < 0 ∧ ((ff + (1 : Int32)) + (1 : Int32)) < zt := ⟨zi308, own_ltt hc431 hnz⟩
            have ri435 := htt _ (own_natl i435.1 i435.2)
            have zi435 := own_pos zi308 hc431
            have li435 := own_nlt1 hc431
            have mi435 := own_lim hz hc112 hn3
            have hi434 : ¬ (((ff + (1 : Int32)) + (1 : Int32)) < 0 ∨ cl433.slots.size ≤ (((ff + (1 : Int32)) + (1 : Int32))).toNatClampNeg) := (inb_of S433 i435)
            have G436 : Go p e below A0 (T310.setTop (mkF m 33 #[.val (.ref ax), .val (.ref tx), .val (.int nn), .val (.int ((ff + (1 : Int32)) + (1 : Int32))), .val (.int (tt (((ff + (1 : Int32)) + (1 : Int32))).toNatClampNeg)), .unset, .unset, .unset, .unset, .unset] [])) := fun tq kq => G432 tq (by
              refine X310.caload hx (j := ((ff + (1 : Int32)) + (1 : Int32))) (v := (.int (tt (((ff + (1 : Int32)) + (1 : Int32))).toNatClampNeg))) (by rw [e310]; exact Ar433.1) (State.isArrayOf_alike hZ.alike Ar433.2.1) Ar433.2.2 hi434 ((H433 _ (S433 ▸ Nat.lt_of_not_le fun y => hi434 (Or.inr y))).trans (congrArg some rfl)) (g := (mkF m 22 #[.val (.ref ax), .val (.ref tx), .val (.int nn), .val (.int ((ff + (1 : Int32)) + (1 : Int32))), .val (.int (tt ((ff + (1 : Int32))).toNatClampNeg)), .unset, .unset, .unset, .unset, .unset] [(.int ((ff + (1 : Int32)) + (1 : Int32))), (.ref tx)])) rfl rfl (hb hby d6_22) _ ?_
              show Steps p.tables e below (T310.setTop (mkF m 23 #[.val (.ref ax), .val (.ref tx), .val (.int nn), .val (.int ((ff + (1 : Int32)) + (1 : Int32))), .val (.int (tt ((ff + (1 : Int32))).toNatClampNeg)), .unset, .unset, .unset, .unset, .unset] [(.int (tt (((ff + (1 : Int32)) + (1 : Int32))).toNatClampNeg))])) _
              refine XS.istore X310.here hx rfl (hb hby d6_23) rfl (l' := #[.val (.ref ax), .val (.ref tx), .val (.int nn), .val (.int ((ff + (1 : Int32)) + (1 : Int32))), .val (.int (tt (((ff + (1 : Int32)) + (1 : Int32))).toNatClampNeg)), .unset, .unset, .unset, .unset, .unset]) rfl ?_
              show Steps p.tables e below (T310.setTop (mkF m 25 #[.val (.ref ax), .val (.ref tx), .val (.int nn), .val (.int ((ff + (1 : Int32)) + (1 : Int32))), .val (.int (tt (((ff + (1 : Int32)) + (1 : Int32))).toNatClampNeg)), .unset, .unset, .unset, .unset, .unset] [])) _
              refine XS.iload X310.here hx rfl (hb hby d6_25) rfl ?_
              show Steps p.tables e below (T310.setTop (mkF m 27 #[.val (.ref ax), .val (.ref tx), .val (.int nn), .val (.int ((ff + (1 : Int32)) + (1 : Int32))), .val (.int (tt (((ff + (1 : Int32)) + (1 : Int32))).toNatClampNeg)), .unset, .unset, .unset, .unset, .unset] [(.int (tt (((ff + (1 : Int32)) + (1 : Int32))).toNatClampNeg))])) _
              refine XS.sipush X310.here hx rfl (hb hby d6_27) ?_
              show Steps p.tables e below (T310.setTop (mkF m 30 #[.val (.ref ax), .val (.ref tx), .val (.int nn), .val (.int ((ff + (1 : Int32)) + (1 : Int32))), .val (.int (tt (((ff + (1 : Int32)) + (1 : Int32))).toNatClampNeg)), .unset, .unset, .unset, .unset, .unset] [(.int (128 : Int32)), (.int (tt (((ff + (1 : Int32)) + (1 : Int32))).toNatClampNeg))])) _
              refine XS.icmpNo X310.here hx rfl (hb hby d6_30) rfl (tlt ri435.2).2.1 ?_
              show Steps p.tables e below (T310.setTop (mkF m 33 #[.val (.ref ax), .val (.ref tx), .val (.int nn), .val (.int ((ff + (1 : Int32)) + (1 : Int32))), .val (.int (tt (((ff + (1 : Int32)) + (1 : Int32))).toNatClampNeg)), .unset, .unset, .unset, .unset, .unset] [])) _
              exact kq)
            obtain ⟨T437, X437, e437, st437⟩ := getS2 X310 hx hZ hown (host := "") (Or.inl (hw _ (List.mem_of_getElem? (i := 38) rfl))) Via.refl e310 (hSd.ext hold.2) (g := (mkF m 33 #[.val (.ref ax), .val (.ref tx), .val (.int nn), .val (.int ((ff + (1 : Int32)) + (1 : Int32))), .val (.int (tt (((ff + (1 : Int32)) + (1 : Int32))).toNatClampNeg)), .unset, .unset, .unset, .unset, .unset] [])) rfl (hb hby d6_33)
            have G438 : Go p e below A0 (T437.setTop (mkF m 36 #[.val (.ref ax), .val (.ref tx), .val (.int nn), .val (.int ((ff + (1 : Int32)) + (1 : Int32))), .val (.int (tt (((ff + (1 : Int32)) + (1 : Int32))).toNatClampNeg)), .unset, .unset, .unset, .unset, .unset] [(.ref tb)])) := fun tq kq => G436 tq (st437 _ kq)
            have G439 : Go p e below A0 (T437.setTop (mkF m 38 #[.val (.ref ax), .val (.ref tx), .val (.int nn), .val (.int ((ff + (1 : Int32)) + (1 : Int32))), .val (.int (tt (((ff + (1 : Int32)) + (1 : Int32))).toNatClampNeg)), .unset, .unset, .unset, .unset, .unset] [(.int (tt (((ff + (1 : Int32)) + (1 : Int32))).toNatClampNeg)), (.ref tb)])) := fun tq kq => G438 tq (by
              refine XS.iload X437.here hx rfl (hb hby d6_36) rfl ?_
              show Steps p.tables e below (T437.setTop (mkF m 38 #[.val (.ref ax), .val (.ref tx), .val (.int nn), .val (.int ((ff + (1 : Int32)) + (1 : Int32))), .val (.int (tt (((ff + (1 : Int32)) + (1 : Int32))).toNatClampNeg)), .unset, .unset, .unset, .unset, .unset] [(.int (tt (((ff + (1 : Int32)) + (1 : Int32))).toNatClampNeg)), (.ref tb)])) _
              exact kq)
            obtain ⟨cl440, Ar440, q440, S440, M440, H440⟩ := id hAd0
            have hi441 : ¬ ((tt (((ff + (1 : Int32)) + (1 : Int32))).toNatClampNeg) < 0 ∨ cl440.slots.size ≤ ((tt (((ff + (1 : Int32)) + (1 : Int32))).toNatClampNeg)).toNatClampNeg) := (inb_of S440 ri435)
            have G442 : Go p e below A0 (T437.setTop (mkF m 39 #[.val (.ref ax), .val (.ref tx), .val (.int nn), .val (.int ((ff + (1 : Int32)) + (1 : Int32))), .val (.int (tt (((ff + (1 : Int32)) + (1 : Int32))).toNatClampNeg)), .unset, .unset, .unset, .unset, .unset] [(.int (own_a (tt (((ff + (1 : Int32)) + (1 : Int32))).toNatClampNeg)))])) := fun tq kq => G439 tq (by
              refine X437.baloadBytes hx (j := (tt (((ff + (1 : Int32)) + (1 : Int32))).toNatClampNeg)) (v := (.int (own_a (tt (((ff + (1 : Int32)) + (1 : Int32))).toNatClampNeg)))) (by rw [e437]; exact Ar440.1) (State.isArrayOf_alike hZ.alike Ar440.2.1) Ar440.2.2 hi441 ((H440 _ (S440 ▸ Nat.lt_of_not_le fun y => hi441 (Or.inr y))).trans (congrArg some (congrArg (fun q => Value.int (own_a q)) (own_back ri435.1)))) (g := (mkF m 38 #[.val (.ref ax), .val (.ref tx), .val (.int nn), .val (.int ((ff + (1 : Int32)) + (1 : Int32))), .val (.int (tt (((ff + (1 : Int32)) + (1 : Int32))).toNatClampNeg)), .unset, .unset, .unset, .unset, .unset] [(.int (tt (((ff + (1 : Int32)) + (1 : Int32))).toNatClampNeg)), (.ref tb)])) rfl rfl (hb hby d6_38) _ ?_
              show Steps p.tables e below (T437.setTop (mkF m 39 #[.val (.ref ax), .val (.ref tx), .val (.int nn), .val (.int ((ff + (1 : Int32)) + (1 : Int32))), .val (.int (tt (((ff + (1 : Int32)) + (1 : Int32))).toNatClampNeg)), .unset, .unset, .unset, .unset, .unset] [(.int (own_a (tt (((ff + (1 : Int32)) + (1 : Int32))).toNatClampNeg)))])) _
              exact kq)
            by_cases hc443 : (own_W (tt (((ff + (1 : Int32)) + (1 : Int32))).toNatClampNeg))
            · have G444 : Go p e below A0 (T437.setTop (mkF m 89 #[.val (.ref ax), .val (.ref tx), .val (.int nn), .val (.int ((ff + (1 : Int32)) + (1 : Int32))), .val (.int (tt (((ff + (1 : Int32)) + (1 : Int32))).toNatClampNeg)), .unset, .unset, .unset, .unset, .unset] [(.int ((ff + (1 : Int32)) + (1 : Int32))), (.ref ax)])) := fun tq kq => G442 tq (by
                refine XS.ifNo X437.here hx rfl (hb hby d6_39) rfl ((if0 _ _).trans (feq (own_a1 hc443)).1) ?_
                show Steps p.tables e below (T437.setTop (mkF m 42 #[.val (.ref ax), .val (.ref tx), .val (.int nn), .val (.int ((ff + (1 : Int32)) + (1 : Int32))), .val (.int (tt (((ff + (1 : Int32)) + (1 : Int32))).toNatClampNeg)), .unset, .unset, .unset, .unset, .unset] [])) _
                refine XS.goto X437.here hx rfl (pc0 := 42) (pc' := 87) rfl (hb hby d6_42) (by decide) (by decide) ?_
                show Steps p.tables e below (T437.setTop (mkF m 87 #[.val (.ref ax), .val (.ref tx), .val (.int nn), .val (.int ((ff + (1 : Int32)) + (1 : Int32))), .val (.int (tt (((ff + (1 : Int32)) + (1 : Int32))).toNatClampNeg)), .unset, .unset, .unset, .unset, .unset] [])) _
                refine XS.aloadN X437.here hx rfl (hb hby d6_87) rfl rfl ?_
                show Steps p.tables e below (T437.setTop (mkF m 88 #[.val (.ref ax), .val (.ref tx), .val (.int nn), .val (.int ((ff + (1 : Int32)) + (1 : Int32))), .val (.int (tt (((ff + (1 : Int32)) + (1 : Int32))).toNatClampNeg)), .unset, .unset, .unset, .unset, .unset] [(.ref ax)])) _
                refine XS.iloadN X437.here hx rfl (hb hby d6_88) rfl ?_
                show Steps p.tables e below (T437.setTop (mkF m 89 #[.val (.ref ax), .val (.ref tx), .val (.int nn), .val (.int ((ff + (1 : Int32)) + (1 : Int32))), .val (.int (tt (((ff + (1 : Int32)) + (1 : Int32))).toNatClampNeg)), .unset, .unset, .unset, .unset, .unset] [(.int ((ff + (1 : Int32)) + (1 : Int32))), (.ref ax)])) _
                exact kq)
              obtain ⟨T445, h445, X445, e445, W445, st445⟩ := putF X437 hx hZ hown (host := "") (Or.inl (hw _ (List.mem_of_getElem? (i := 27) rfl))) Via.refl e437 F_at E (Or.inl (hw _ (List.mem_of_getElem? (i := 28) rfl))) (hw _ (List.mem_of_getElem? (i := 9) rfl)) (ty := .int) (by decide) rfl rfl (g := (mkF m 89 #[.val (.ref ax), .val (.ref tx), .val (.int nn), .val (.int ((ff + (1 : Int32)) + (1 : Int32))), .val (.int (tt (((ff + (1 : Int32)) + (1 : Int32))).toNatClampNeg)), .unset, .unset, .unset, .unset, .unset] [(.int ((ff + (1 : Int32)) + (1 : Int32))), (.ref ax)])) rfl rfl (hb hby d6_89)
              have N445 := Fr.snoc X445 N0 gax
              have fw445 := F_at.same W445
              have G446 : Go p e below A0 (T445.setTop (mkF m 92 #[.val (.ref ax), .val (.ref tx), .val (.int nn), .val (.int ((ff + (1 : Int32)) + (1 : Int32))), .val (.int (tt (((ff + (1 : Int32)) + (1 : Int32))).toNatClampNeg)), .unset, .unset, .unset, .unset, .unset] [])) := fun tq kq => G444 tq (st445 _ kq)
              have G447 : Go p e below A0 (T445.setTop (mkF m 106 #[.val (.ref ax), .val (.ref tx), .val (.int nn), .val (.int ((ff + (1 : Int32)) + (1 : Int32))), .val (.int ((ff + (1 : Int32)) + (1 : Int32))), .val (.int (1 : Int32)), .unset, .unset, .unset, .unset] [(.ref ax)])) := fun tq kq => G446 tq (by
                refine XS.iloadN X445.here hx rfl (hb hby d6_92) rfl ?_
                show Steps p.tables e below (T445.setTop (mkF m 93 #[.val (.ref ax), .val (.ref tx), .val (.int nn), .val (.int ((ff + (1 : Int32)) + (1 : Int32))), .val (.int (tt (((ff + (1 : Int32)) + (1 : Int32))).toNatClampNeg)), .unset, .unset, .unset, .unset, .unset] [(.int ((ff + (1 : Int32)) + (1 : Int32)))])) _
                refine XS.iloadN X445.here hx rfl (hb hby d6_93) rfl ?_
                show Steps p.tables e below (T445.setTop (mkF m 94 #[.val (.ref ax), .val (.ref tx), .val (.int nn), .val (.int ((ff + (1 : Int32)) + (1 : Int32))), .val (.int (tt (((ff + (1 : Int32)) + (1 : Int32))).toNatClampNeg)), .unset, .unset, .unset, .unset, .unset] [(.int nn), (.int ((ff + (1 : Int32)) + (1 : Int32)))])) _
                refine XS.icmpYes X445.here hx rfl (pc0 := 94) (pc' := 99) rfl (hb hby d6_94) rfl (feq (own_ltne hc431)).2 (by decide) (by decide) ?_
                show Steps p.tables e below (T445.setTop (mkF m 99 #[.val (.ref ax), .val (.ref tx), .val (.int nn), .val (.int ((ff + (1 : Int32)) + (1 : Int32))), .val (.int (tt (((ff + (1 : Int32)) + (1 : Int32))).toNatClampNeg)), .unset, .unset, .unset, .unset, .unset] [])) _
                refine XS.iloadN X445.here hx rfl (hb hby d6_99) rfl ?_
                show Steps p.tables e below (T445.setTop (mkF m 100 #[.val (.ref ax), .val (.ref tx), .val (.int nn), .val (.int ((ff + (1 : Int32)) + (1 : Int32))), .val (.int (tt (((ff + (1 : Int32)) + (1 : Int32))).toNatClampNeg)), .unset, .unset, .unset, .unset, .unset] [(.int ((ff + (1 : Int32)) + (1 : Int32)))])) _
                refine XS.istore X445.here hx rfl (hb hby d6_100) rfl (l' := #[.val (.ref ax), .val (.ref tx), .val (.int nn), .val (.int ((ff + (1 : Int32)) + (1 : Int32))), .val (.int ((ff + (1 : Int32)) + (1 : Int32))), .unset, .unset, .unset, .unset, .unset]) rfl ?_
                show Steps p.tables e below (T445.setTop (mkF m 102 #[.val (.ref ax), .val (.ref tx), .val (.int nn), .val (.int ((ff + (1 : Int32)) + (1 : Int32))), .val (.int ((ff + (1 : Int32)) + (1 : Int32))), .unset, .unset, .unset, .unset, .unset] [])) _
                refine XS.iconst X445.here hx rfl (hb hby d6_102) ?_
                show Steps p.tables e below (T445.setTop (mkF m 103 #[.val (.ref ax), .val (.ref tx), .val (.int nn), .val (.int ((ff + (1 : Int32)) + (1 : Int32))), .val (.int ((ff + (1 : Int32)) + (1 : Int32))), .unset, .unset, .unset, .unset, .unset] [(.int (1 : Int32))])) _
                refine XS.istore X445.here hx rfl (hb hby d6_103) rfl (l' := #[.val (.ref ax), .val (.ref tx), .val (.int nn), .val (.int ((ff + (1 : Int32)) + (1 : Int32))), .val (.int ((ff + (1 : Int32)) + (1 : Int32))), .val (.int (1 : Int32)), .unset, .unset, .unset, .unset]) rfl ?_
                show Steps p.tables e below (T445.setTop (mkF m 105 #[.val (.ref ax), .val (.ref tx), .val (.int nn), .val (.int ((ff + (1 : Int32)) + (1 : Int32))), .val (.int ((ff + (1 : Int32)) + (1 : Int32))), .val (.int (1 : Int32)), .unset, .unset, .unset, .unset] [])) _
                refine XS.aloadN X445.here hx rfl (hb hby d6_105) rfl rfl ?_
                show Steps p.tables e below (T445.setTop (mkF m 106 #[.val (.ref ax), .val (.ref tx), .val (.int nn), .val (.int ((ff + (1 : Int32)) + (1 : Int32))), .val (.int ((ff + (1 : Int32)) + (1 : Int32))), .val (.int (1 : Int32)), .unset, .unset, .unset, .unset] [(.ref ax)])) _
                exact kq)
              have f448 := (F_word.other W445 (Or.inr (slot_ne (Or.inl (hw _ (List.mem_of_getElem? (i := 19) rfl))) (Or.inl (hw _ (List.mem_of_getElem? (i := 28) rfl))) (by decide) (t := (.array .byte)) (t' := .int) (by decide) (by decide))))
              obtain ⟨T449, X449, e449, st449⟩ := getF X445 hx hZ hown (host := "") (Or.inl (hw _ (List.mem_of_getElem? (i := 18) rfl))) Via.refl e445 f448 (g := (mkF m 106 #[.val (.ref ax), .val (.ref tx), .val (.int nn), .val (.int ((ff + (1 : Int32)) + (1 : Int32))), .val (.int ((ff + (1 : Int32)) + (1 : Int32))), .val (.int (1 : Int32)), .unset, .unset, .unset, .unset] [(.ref ax)])) rfl rfl (hb hby d6_106)
              have G450 : Go p e below A0 (T449.setTop (mkF m 109 #[.val (.ref ax), .val (.ref tx), .val (.int nn), .val (.int ((ff + (1 : Int32)) + (1 : Int32))), .val (.int ((ff + (1 : Int32)) + (1 : Int32))), .val (.int (1 : Int32)), .unset, .unset, .unset, .unset] [(.ref wb)])) := fun tq kq => G447 tq (st449 _ kq)
              have G451 : Go p e below A0 (T449.setTop (mkF m 121 #[.val (.ref ax), .val (.ref tx), .val (.int nn), .val (.int ((ff + (1 : Int32)) + (1 : Int32))), .val (.int ((ff + (1 : Int32)) + (1 : Int32))), .val (.int (1 : Int32)), .val (.ref wb), .val (.int (0 : Int32)), .unset, .unset] [(.int ((ff + (1 : Int32)) + (1 : Int32))), (.ref tx)])) := fun tq kq => G450 tq (by
                refine XS.astore X449.here hx rfl (hb hby d6_109) rfl rfl (l' := #[.val (.ref ax), .val (.ref tx), .val (.int nn), .val (.int ((ff + (1 : Int32)) + (1 : Int32))), .val (.int ((ff + (1 : Int32)) + (1 : Int32))), .val (.int (1 : Int32)), .val (.ref wb), .unset, .unset, .unset]) rfl ?_
                show Steps p.tables e below (T449.setTop (mkF m 111 #[.val (.ref ax), .val (.ref tx), .val (.int nn), .val (.int ((ff + (1 : Int32)) + (1 : Int32))), .val (.int ((ff + (1 : Int32)) + (1 : Int32))), .val (.int (1 : Int32)), .val (.ref wb), .unset, .unset, .unset] [])) _
                refine XS.iconst X449.here hx rfl (hb hby d6_111) ?_
                show Steps p.tables e below (T449.setTop (mkF m 112 #[.val (.ref ax), .val (.ref tx), .val (.int nn), .val (.int ((ff + (1 : Int32)) + (1 : Int32))), .val (.int ((ff + (1 : Int32)) + (1 : Int32))), .val (.int (1 : Int32)), .val (.ref wb), .unset, .unset, .unset] [(.int (0 : Int32))])) _
                refine XS.istore X449.here hx rfl (hb hby d6_112) rfl (l' := #[.val (.ref ax), .val (.ref tx), .val (.int nn), .val (.int ((ff + (1 : Int32)) + (1 : Int32))), .val (.int ((ff + (1 : Int32)) + (1 : Int32))), .val (.int (1 : Int32)), .val (.ref wb), .val (.int (0 : Int32)), .unset, .unset]) rfl ?_
                show Steps p.tables e below (T449.setTop (mkF m 114 #[.val (.ref ax), .val (.ref tx), .val (.int nn), .val (.int ((ff + (1 : Int32)) + (1 : Int32))), .val (.int ((ff + (1 : Int32)) + (1 : Int32))), .val (.int (1 : Int32)), .val (.ref wb), .val (.int (0 : Int32)), .unset, .unset] [])) _
                refine XS.iloadN X449.here hx rfl (hb hby d6_114) rfl ?_
                show Steps p.tables e below (T449.setTop (mkF m 115 #[.val (.ref ax), .val (.ref tx), .val (.int nn), .val (.int ((ff + (1 : Int32)) + (1 : Int32))), .val (.int ((ff + (1 : Int32)) + (1 : Int32))), .val (.int (1 : Int32)), .val (.ref wb), .val (.int (0 : Int32)), .unset, .unset] [(.int ((ff + (1 : Int32)) + (1 : Int32)))])) _
                refine XS.iloadN X449.here hx rfl (hb hby d6_115) rfl ?_
                show Steps p.tables e below (T449.setTop (mkF m 116 #[.val (.ref ax), .val (.ref tx), .val (.int nn), .val (.int ((ff + (1 : Int32)) + (1 : Int32))), .val (.int ((ff + (1 : Int32)) + (1 : Int32))), .val (.int (1 : Int32)), .val (.ref wb), .val (.int (0 : Int32)), .unset, .unset] [(.int nn), (.int ((ff + (1 : Int32)) + (1 : Int32)))])) _
                refine XS.icmpNo X449.here hx rfl (hb hby d6_116) rfl (tlt hc431).2.1 ?_
                show Steps p.tables e below (T449.setTop (mkF m 119 #[.val (.ref ax), .val (.ref tx), .val (.int nn), .val (.int ((ff + (1 : Int32)) + (1 : Int32))), .val (.int ((ff + (1 : Int32)) + (1 : Int32))), .val (.int (1 : Int32)), .val (.ref wb), .val (.int (0 : Int32)), .unset, .unset] [])) _
                refine XS.aloadN X449.here hx rfl (hb hby d6_119) rfl rfl ?_
                show Steps p.tables e below (T449.setTop (mkF m 120 #[.val (.ref ax), .val (.ref tx), .val (.int nn), .val (.int ((ff + (1 : Int32)) + (1 : Int32))), .val (.int ((ff + (1 : Int32)) + (1 : Int32))), .val (.int (1 : Int32)), .val (.ref wb), .val (.int (0 : Int32)), .unset, .unset] [(.ref tx)])) _
                refine XS.iloadN X449.here hx rfl (hb hby d6_120) rfl ?_
                show Steps p.tables e below (T449.setTop (mkF m 121 #[.val (.ref ax), .val (.ref tx), .val (.int nn), .val (.int ((ff + (1 : Int32)) + (1 : Int32))), .val (.int ((ff + (1 : Int32)) + (1 : Int32))), .val (.int (1 : Int32)), .val (.ref wb), .val (.int (0 : Int32)), .unset, .unset] [(.int ((ff + (1 : Int32)) + (1 : Int32))), (.ref tx)])) _
                exact kq)
              have f452 := (At.other W445 hta)
              obtain ⟨cl453, Ar453, q453, S453, M453, H453⟩ := id f452
              have i455 : ¬ ((ff + (1 : Int32)) + (1 : Int32)) < 0 ∧ ((ff + (1 : Int32)) + (1 : Int32)) < zt := ⟨zi308, own_ltt hc431 hnz⟩
              have ri455 := htt _ (own_natl i455.1 i455.2)
              have zi455 := own_pos zi308 hc431
              have li455 := own_nlt1 hc431
              have mi455 := own_lim hz hc112 hn3
              have hi454 : ¬ (((ff + (1 : Int32)) + (1 : Int32)) < 0 ∨ cl453.slots.size ≤ (((ff + (1 : Int32)) + (1 : Int32))).toNatClampNeg) := (inb_of S453 i455)
              have G456 : Go p e below A0 (T449.setTop (mkF m 132 #[.val (.ref ax), .val (.ref tx), .val (.int nn), .val (.int ((ff + (1 : Int32)) + (1 : Int32))), .val (.int ((ff + (1 : Int32)) + (1 : Int32))), .val (.int (1 : Int32)), .val (.ref wb), .val (.int (0 : Int32)), .val (.int (tt (((ff + (1 : Int32)) + (1 : Int32))).toNatClampNeg)), .unset] [])) := fun tq kq => G451 tq (by
                refine X449.caload hx (j := ((ff + (1 : Int32)) + (1 : Int32))) (v := (.int (tt (((ff + (1 : Int32)) + (1 : Int32))).toNatClampNeg))) (by rw [e449]; exact Ar453.1) (State.isArrayOf_alike hZ.alike Ar453.2.1) Ar453.2.2 hi454 ((H453 _ (S453 ▸ Nat.lt_of_not_le fun y => hi454 (Or.inr y))).trans (congrArg some rfl)) (g := (mkF m 121 #[.val (.ref ax), .val (.ref tx), .val (.int nn), .val (.int ((ff + (1 : Int32)) + (1 : Int32))), .val (.int ((ff + (1 : Int32)) + (1 : Int32))), .val (.int (1 : Int32)), .val (.ref wb), .val (.int (0 : Int32)), .unset, .unset] [(.int ((ff + (1 : Int32)) + (1 : Int32))), (.ref tx)])) rfl rfl (hb hby d6_121) _ ?_
                show Steps p.tables e below (T449.setTop (mkF m 122 #[.val (.ref ax), .val (.ref tx), .val (.int nn), .val (.int ((ff + (1 : Int32)) + (1 : Int32))), .val (.int ((ff + (1 : Int32)) + (1 : Int32))), .val (.int (1 : Int32)), .val (.ref wb), .val (.int (0 : Int32)), .unset, .unset] [(.int (tt (((ff + (1 : Int32)) + (1 : Int32))).toNatClampNeg))])) _
                refine XS.istore X449.here hx rfl (hb hby d6_122) rfl (l' := #[.val (.ref ax), .val (.ref tx), .val (.int nn), .val (.int ((ff + (1 : Int32)) + (1 : Int32))), .val (.int ((ff + (1 : Int32)) + (1 : Int32))), .val (.int (1 : Int32)), .val (.ref wb), .val (.int (0 : Int32)), .val (.int (tt (((ff + (1 : Int32)) + (1 : Int32))).toNatClampNeg)), .unset]) rfl ?_
                show Steps p.tables e below (T449.setTop (mkF m 124 #[.val (.ref ax), .val (.ref tx), .val (.int nn), .val (.int ((ff + (1 : Int32)) + (1 : Int32))), .val (.int ((ff + (1 : Int32)) + (1 : Int32))), .val (.int (1 : Int32)), .val (.ref wb), .val (.int (0 : Int32)), .val (.int (tt (((ff + (1 : Int32)) + (1 : Int32))).toNatClampNeg)), .unset] [])) _
                refine XS.iload X449.here hx rfl (hb hby d6_124) rfl ?_
                show Steps p.tables e below (T449.setTop (mkF m 126 #[.val (.ref ax), .val (.ref tx), .val (.int nn), .val (.int ((ff + (1 : Int32)) + (1 : Int32))), .val (.int ((ff + (1 : Int32)) + (1 : Int32))), .val (.int (1 : Int32)), .val (.ref wb), .val (.int (0 : Int32)), .val (.int (tt (((ff + (1 : Int32)) + (1 : Int32))).toNatClampNeg)), .unset] [(.int (tt (((ff + (1 : Int32)) + (1 : Int32))).toNatClampNeg))])) _
                refine XS.sipush X449.here hx rfl (hb hby d6_126) ?_
                show Steps p.tables e below (T449.setTop (mkF m 129 #[.val (.ref ax), .val (.ref tx), .val (.int nn), .val (.int ((ff + (1 : Int32)) + (1 : Int32))), .val (.int ((ff + (1 : Int32)) + (1 : Int32))), .val (.int (1 : Int32)), .val (.ref wb), .val (.int (0 : Int32)), .val (.int (tt (((ff + (1 : Int32)) + (1 : Int32))).toNatClampNeg)), .unset] [(.int (128 : Int32)), (.int (tt (((ff + (1 : Int32)) + (1 : Int32))).toNatClampNeg))])) _
                refine XS.icmpNo X449.here hx rfl (hb hby d6_129) rfl (tlt ri455.2).2.1 ?_
                show Steps p.tables e below (T449.setTop (mkF m 132 #[.val (.ref ax), .val (.ref tx), .val (.int nn), .val (.int ((ff + (1 : Int32)) + (1 : Int32))), .val (.int ((ff + (1 : Int32)) + (1 : Int32))), .val (.int (1 : Int32)), .val (.ref wb), .val (.int (0 : Int32)), .val (.int (tt (((ff + (1 : Int32)) + (1 : Int32))).toNatClampNeg)), .unset] [])) _
                exact kq)
              obtain ⟨T457, X457, e457, st457⟩ := getS2 X449 hx hZ hown (host := "") (Or.inl (hw _ (List.mem_of_getElem? (i := 38) rfl))) Via.refl e449 (hSd.ext (hold.wr W445 gax).2) (g := (mkF m 132 #[.val (.ref ax), .val (.ref tx), .val (.int nn), .val (.int ((ff + (1 : Int32)) + (1 : Int32))), .val (.int ((ff + (1 : Int32)) + (1 : Int32))), .val (.int (1 : Int32)), .val (.ref wb), .val (.int (0 : Int32)), .val (.int (tt (((ff + (1 : Int32)) + (1 : Int32))).toNatClampNeg)), .unset] [])) rfl (hb hby d6_132)
              have G458 : Go p e below A0 (T457.setTop (mkF m 135 #[.val (.ref ax), .val (.ref tx), .val (.int nn), .val (.int ((ff + (1 : Int32)) + (1 : Int32))), .val (.int ((ff + (1 : Int32)) + (1 : Int32))), .val (.int (1 : Int32)), .val (.ref wb), .val (.int (0 : Int32)), .val (.int (tt (((ff + (1 : Int32)) + (1 : Int32))).toNatClampNeg)), .unset] [(.ref tb)])) := fun tq kq => G456 tq (st457 _ kq)
              have G459 : Go p e below A0 (T457.setTop (mkF m 137 #[.val (.ref ax), .val (.ref tx), .val (.int nn), .val (.int ((ff + (1 : Int32)) + (1 : Int32))), .val (.int ((ff + (1 : Int32)) + (1 : Int32))), .val (.int (1 : Int32)), .val (.ref wb), .val (.int (0 : Int32)), .val (.int (tt (((ff + (1 : Int32)) + (1 : Int32))).toNatClampNeg)), .unset] [(.int (tt (((ff + (1 : Int32)) + (1 : Int32))).toNatClampNeg)), (.ref tb)])) := fun tq kq => G458 tq (by
                refine XS.iload X457.here hx rfl (hb hby d6_135) rfl ?_
                show Steps p.tables e below (T457.setTop (mkF m 137 #[.val (.ref ax), .val (.ref tx), .val (.int nn), .val (.int ((ff + (1 : Int32)) + (1 : Int32))), .val (.int ((ff + (1 : Int32)) + (1 : Int32))), .val (.int (1 : Int32)), .val (.ref wb), .val (.int (0 : Int32)), .val (.int (tt (((ff + (1 : Int32)) + (1 : Int32))).toNatClampNeg)), .unset] [(.int (tt (((ff + (1 : Int32)) + (1 : Int32))).toNatClampNeg)), (.ref tb)])) _
                exact kq)
              have f460 := (hAd0.other W445 (hold.ne hAd.lt gax))
              obtain ⟨cl461, Ar461, q461, S461, M461, H461⟩ := id f460
              have hi462 : ¬ ((tt (((ff + (1 : Int32)) + (1 : Int32))).toNatClampNeg) < 0 ∨ cl461.slots.size ≤ ((tt (((ff + (1 : Int32)) + (1 : Int32))).toNatClampNeg)).toNatClampNeg) := (inb_of S461 ri455)
              have G463 : Go p e below A0 (T457.setTop (mkF m 152 #[.val (.ref ax), .val (.ref tx), .val (.int nn), .val (.int ((ff + (1 : Int32)) + (1 : Int32))), .val (.int ((ff + (1 : Int32)) + (1 : Int32))), .val (.int (1 : Int32)), .val (.ref wb), .val (.int (0 : Int32)), .val (.int (tt (((ff + (1 : Int32)) + (1 : Int32))).toNatClampNeg)), .val (.int (own_a (tt (((ff + (1 : Int32)) + (1 : Int32))).toNatClampNeg)))] [(.ref wb), (.int (0 : Int32))])) := fun tq kq => G459 tq (by
                refine X457.baloadBytes hx (j := (tt (((ff + (1 : Int32)) + (1 : Int32))).toNatClampNeg)) (v := (.int (own_a (tt (((ff + (1 : Int32)) + (1 : Int32))).toNatClampNeg)))) (by rw [e457]; exact Ar461.1) (State.isArrayOf_alike hZ.alike Ar461.2.1) Ar461.2.2 hi462 ((H461 _ (S461 ▸ Nat.lt_of_not_le fun y => hi462 (Or.inr y))).trans (congrArg some (congrArg (fun q => Value.int (own_a q)) (own_back ri455.1)))) (g := (mkF m 137 #[.val (.ref ax), .val (.ref tx), .val (.int nn), .val (.int ((ff + (1 : Int32)) + (1 : Int32))), .val (.int ((ff + (1 : Int32)) + (1 : Int32))), .val (.int (1 : Int32)), .val (.ref wb), .val (.int (0 : Int32)), .val (.int (tt (((ff + (1 : Int32)) + (1 : Int32))).toNatClampNeg)), .unset] [(.int (tt (((ff + (1 : Int32)) + (1 : Int32))).toNatClampNeg)), (.ref tb)])) rfl rfl (hb hby d6_137) _ ?_
                show Steps p.tables e below (T457.setTop (mkF m 138 #[.val (.ref ax), .val (.ref tx), .val (.int nn), .val (.int ((ff + (1 : Int32)) + (1 : Int32))), .val (.int ((ff + (1 : Int32)) + (1 : Int32))), .val (.int (1 : Int32)), .val (.ref wb), .val (.int (0 : Int32)), .val (.int (tt (((ff + (1 : Int32)) + (1 : Int32))).toNatClampNeg)), .unset] [(.int (own_a (tt (((ff + (1 : Int32)) + (1 : Int32))).toNatClampNeg)))])) _
                refine XS.istore X457.here hx rfl (hb hby d6_138) rfl (l' := #[.val (.ref ax), .val (.ref tx), .val (.int nn), .val (.int ((ff + (1 : Int32)) + (1 : Int32))), .val (.int ((ff + (1 : Int32)) + (1 : Int32))), .val (.int (1 : Int32)), .val (.ref wb), .val (.int (0 : Int32)), .val (.int (tt (((ff + (1 : Int32)) + (1 : Int32))).toNatClampNeg)), .val (.int (own_a (tt (((ff + (1 : Int32)) + (1 : Int32))).toNatClampNeg)))]) rfl ?_
                show Steps p.tables e below (T457.setTop (mkF m 140 #[.val (.ref ax), .val (.ref tx), .val (.int nn), .val (.int ((ff + (1 : Int32)) + (1 : Int32))), .val (.int ((ff + (1 : Int32)) + (1 : Int32))), .val (.int (1 : Int32)), .val (.ref wb), .val (.int (0 : Int32)), .val (.int (tt (((ff + (1 : Int32)) + (1 : Int32))).toNatClampNeg)), .val (.int (own_a (tt (((ff + (1 : Int32)) + (1 : Int32))).toNatClampNeg)))] [])) _
                refine XS.iload X457.here hx rfl (hb hby d6_140) rfl ?_
                show Steps p.tables e below (T457.setTop (mkF m 142 #[.val (.ref ax), .val (.ref tx), .val (.int nn), .val (.int ((ff + (1 : Int32)) + (1 : Int32))), .val (.int ((ff + (1 : Int32)) + (1 : Int32))), .val (.int (1 : Int32)), .val (.ref wb), .val (.int (0 : Int32)), .val (.int (tt (((ff + (1 : Int32)) + (1 : Int32))).toNatClampNeg)), .val (.int (own_a (tt (((ff + (1 : Int32)) + (1 : Int32))).toNatClampNeg)))] [(.int (own_a (tt (((ff + (1 : Int32)) + (1 : Int32))).toNatClampNeg)))])) _
                refine XS.ifYes X457.here hx rfl (pc0 := 142) (pc' := 148) rfl (hb hby d6_142) rfl ((if0 _ _).trans (feq (own_a1 hc443)).2) (by decide) (by decide) ?_
                show Steps p.tables e below (T457.setTop (mkF m 148 #[.val (.ref ax), .val (.ref tx), .val (.int nn), .val (.int ((ff + (1 : Int32)) + (1 : Int32))), .val (.int ((ff + (1 : Int32)) + (1 : Int32))), .val (.int (1 : Int32)), .val (.ref wb), .val (.int (0 : Int32)), .val (.int (tt (((ff + (1 : Int32)) + (1 : Int32))).toNatClampNeg)), .val (.int (own_a (tt (((ff + (1 : Int32)) + (1 : Int32))).toNatClampNeg)))] [])) _
                refine XS.iload X457.here hx rfl (hb hby d6_148) rfl ?_
                show Steps p.tables e below (T457.setTop (mkF m 150 #[.val (.ref ax), .val (.ref tx), .val (.int nn), .val (.int ((ff + (1 : Int32)) + (1 : Int32))), .val (.int ((ff + (1 : Int32)) + (1 : Int32))), .val (.int (1 : Int32)), .val (.ref wb), .val (.int (0 : Int32)), .val (.int (tt (((ff + (1 : Int32)) + (1 : Int32))).toNatClampNeg)), .val (.int (own_a (tt (((ff + (1 : Int32)) + (1 : Int32))).toNatClampNeg)))] [(.int (0 : Int32))])) _
                refine XS.aload X457.here hx rfl (hb hby d6_150) rfl rfl ?_
                show Steps p.tables e below (T457.setTop (mkF m 152 #[.val (.ref ax), .val (.ref tx), .val (.int nn), .val (.int ((ff + (1 : Int32)) + (1 : Int32))), .val (.int ((ff + (1 : Int32)) + (1 : Int32))), .val (.int (1 : Int32)), .val (.ref wb), .val (.int (0 : Int32)), .val (.int (tt (((ff + (1 : Int32)) + (1 : Int32))).toNatClampNeg)), .val (.int (own_a (tt (((ff + (1 : Int32)) + (1 : Int32))).toNatClampNeg)))] [(.ref wb), (.int (0 : Int32))])) _
                exact kq)
              have f464 := (Aw.other W445 (Ne.symm haw))
              obtain ⟨cl465, Ar465, q465, S465, M465, H465⟩ := id f464
              have G466 : Go p e below A0 (T457.setTop (mkF m 176 #[.val (.ref ax), .val (.ref tx), .val (.int nn), .val (.int ((ff + (1 : Int32)) + (1 : Int32))), .val (.int ((ff + (1 : Int32)) + (1 : Int32))), .val (.int (1 : Int32)), .val (.ref wb), .val (.int (1 : Int32)), .val (.int (tt (((ff + (1 : Int32)) + (1 : Int32))).toNatClampNeg)), .val (.int (own_a (tt (((ff + (1 : Int32)) + (1 : Int32))).toNatClampNeg)))] [(.int (own_a (tt (((ff + (1 : Int32)) + (1 : Int32))).toNatClampNeg))), (.int (0 : Int32)), (.ref wb)])) := fun tq kq => G463 tq (by
                refine X457.arraylength hx (by rw [e457]; exact Ar465.1) (State.isArrayOf_alike hZ.alike Ar465.2.1) (g := (mkF m 152 #[.val (.ref ax), .val (.ref tx), .val (.int nn), .val (.int ((ff + (1 : Int32)) + (1 : Int32))), .val (.int ((ff + (1 : Int32)) + (1 : Int32))), .val (.int (1 : Int32)), .val (.ref wb), .val (.int (0 : Int32)), .val (.int (tt (((ff + (1 : Int32)) + (1 : Int32))).toNatClampNeg)), .val (.int (own_a (tt (((ff + (1 : Int32)) + (1 : Int32))).toNatClampNeg)))] [(.ref wb), (.int (0 : Int32))])) rfl rfl (hb hby d6_152) _ ?_
                rw [len_of S465 M465]
                show Steps p.tables e below (T457.setTop (mkF m 153 #[.val (.ref ax), .val (.ref tx), .val (.int nn), .val (.int ((ff + (1 : Int32)) + (1 : Int32))), .val (.int ((ff + (1 : Int32)) + (1 : Int32))), .val (.int (1 : Int32)), .val (.ref wb), .val (.int (0 : Int32)), .val (.int (tt (((ff + (1 : Int32)) + (1 : Int32))).toNatClampNeg)), .val (.int (own_a (tt (((ff + (1 : Int32)) + (1 : Int32))).toNatClampNeg)))] [(.int (64 : Int32)), (.int (0 : Int32))])) _
                refine XS.icmpYes X457.here hx rfl (pc0 := 153) (pc' := 167) rfl (hb hby d6_153) rfl (by decide) (by decide) (by decide) ?_
                show Steps p.tables e below (T457.setTop (mkF m 167 #[.val (.ref ax), .val (.ref tx), .val (.int nn), .val (.int ((ff + (1 : Int32)) + (1 : Int32))), .val (.int ((ff + (1 : Int32)) + (1 : Int32))), .val (.int (1 : Int32)), .val (.ref wb), .val (.int (0 : Int32)), .val (.int (tt (((ff + (1 : Int32)) + (1 : Int32))).toNatClampNeg)), .val (.int (own_a (tt (((ff + (1 : Int32)) + (1 : Int32))).toNatClampNeg)))] [])) _
                refine XS.aload X457.here hx rfl (hb hby d6_167) rfl rfl ?_
                show Steps p.tables e below (T457.setTop (mkF m 169 #[.val (.ref ax), .val (.ref tx), .val (.int nn), .val (.int ((ff + (1 : Int32)) + (1 : Int32))), .val (.int ((ff + (1 : Int32)) + (1 : Int32))), .val (.int (1 : Int32)), .val (.ref wb), .val (.int (0 : Int32)), .val (.int (tt (((ff + (1 : Int32)) + (1 : Int32))).toNatClampNeg)), .val (.int (own_a (tt (((ff + (1 : Int32)) + (1 : Int32))).toNatClampNeg)))] [(.ref wb)])) _
                refine XS.iload X457.here hx rfl (hb hby d6_169) rfl ?_
                show Steps p.tables e below (T457.setTop (mkF m 171 #[.val (.ref ax), .val (.ref tx), .val (.int nn), .val (.int ((ff + (1 : Int32)) + (1 : Int32))), .val (.int ((ff + (1 : Int32)) + (1 : Int32))), .val (.int (1 : Int32)), .val (.ref wb), .val (.int (0 : Int32)), .val (.int (tt (((ff + (1 : Int32)) + (1 : Int32))).toNatClampNeg)), .val (.int (own_a (tt (((ff + (1 : Int32)) + (1 : Int32))).toNatClampNeg)))] [(.int (0 : Int32)), (.ref wb)])) _
                refine XS.iinc X457.here hx rfl (hb hby d6_171) rfl (l' := #[.val (.ref ax), .val (.ref tx), .val (.int nn), .val (.int ((ff + (1 : Int32)) + (1 : Int32))), .val (.int ((ff + (1 : Int32)) + (1 : Int32))), .val (.int (1 : Int32)), .val (.ref wb), .val (.int ((0 : Int32) + (1 : Int32))), .val (.int (tt (((ff + (1 : Int32)) + (1 : Int32))).toNatClampNeg)), .val (.int (own_a (tt (((ff + (1 : Int32)) + (1 : Int32))).toNatClampNeg)))]) rfl ?_
                show Steps p.tables e below (T457.setTop (mkF m 174 #[.val (.ref ax), .val (.ref tx), .val (.int nn), .val (.int ((ff + (1 : Int32)) + (1 : Int32))), .val (.int ((ff + (1 : Int32)) + (1 : Int32))), .val (.int (1 : Int32)), .val (.ref wb), .val (.int ((0 : Int32) + (1 : Int32))), .val (.int (tt (((ff + (1 : Int32)) + (1 : Int32))).toNatClampNeg)), .val (.int (own_a (tt (((ff + (1 : Int32)) + (1 : Int32))).toNatClampNeg)))] [(.int (0 : Int32)), (.ref wb)])) _
                rw [show ((0 : Int32) + (1 : Int32)) = (1 : Int32) from (by decide : ((0 : Int32) + (1 : Int32)) = (1 : Int32))]
                show Steps p.tables e below (T457.setTop (mkF m 174 #[.val (.ref ax), .val (.ref tx), .val (.int nn), .val (.int ((ff + (1 : Int32)) + (1 : Int32))), .val (.int ((ff + (1 : Int32)) + (1 : Int32))), .val (.int (1 : Int32)), .val (.ref wb), .val (.int (1 : Int32)), .val (.int (tt (((ff + (1 : Int32)) + (1 : Int32))).toNatClampNeg)), .val (.int (own_a (tt (((ff + (1 : Int32)) + (1 : Int32))).toNatClampNeg)))] [(.int (0 : Int32)), (.ref wb)])) _
                refine XS.iload X457.here hx rfl (hb hby d6_174) rfl ?_
                show Steps p.tables e below (T457.setTop (mkF m 176 #[.val (.ref ax), .val (.ref tx), .val (.int nn), .val (.int ((ff + (1 : Int32)) + (1 : Int32))), .val (.int ((ff + (1 : Int32)) + (1 : Int32))), .val (.int (1 : Int32)), .val (.ref wb), .val (.int (1 : Int32)), .val (.int (tt (((ff + (1 : Int32)) + (1 : Int32))).toNatClampNeg)), .val (.int (own_a (tt (((ff + (1 : Int32)) + (1 : Int32))).toNatClampNeg)))] [(.int (own_a (tt (((ff + (1 : Int32)) + (1 : Int32))).toNatClampNeg))), (.int (0 : Int32)), (.ref wb)])) _
                exact kq)
              obtain ⟨cl467, Ar467, q467, S467, M467, H467⟩ := id f464
              have hi468 : ¬ ((0 : Int32) < 0 ∨ cl467.slots.size ≤ ((0 : Int32)).toNatClampNeg) := (inb_of S467 ⟨by decide, by decide⟩)
              obtain ⟨T469, h469, X469, e469, W469, st469⟩ := stB X457 hx hZ e457 Ar467 (j := (0 : Int32)) hi468 (g := (mkF m 176 #[.val (.ref ax), .val (.ref tx), .val (.int nn), .val (.int ((ff + (1 : Int32)) + (1 : Int32))), .val (.int ((ff + (1 : Int32)) + (1 : Int32))), .val (.int (1 : Int32)), .val (.ref wb), .val (.int (1 : Int32)), .val (.int (tt (((ff + (1 : Int32)) + (1 : Int32))).toNatClampNeg)), .val (.int (own_a (tt (((ff + (1 : Int32)) + (1 : Int32))).toNatClampNeg)))] [(.int (own_a (tt (((ff + (1 : Int32)) + (1 : Int32))).toNatClampNeg))), (.int (0 : Int32)), (.ref wb)])) rfl rfl (hb hby d6_176)
              rw [show nar .byte (own_a (tt (((ff + (1 : Int32)) + (1 : Int32))).toNatClampNeg)) = (own_a (tt (((ff + (1 : Int32)) + (1 : Int32))).toNatClampNeg)) from own_naB _] at W469
              have N469 := Fr.snoc X469 N445 gwb
              have V469 : Af Z h469 wb kw .byte (64 : Int32) (fun i => .int ((own_up gw 0 (own_a (tt (((ff + (1 : Int32)) + (1 : Int32))).toNatClampNeg))) i)) := (Af.set Ar467 q467 S467 M467 H467 W469 hi468).fn (fun j _ => own_upf _ _ _ _ rfl j)
              have G470 : Go p e below A0 (T469.setTop (mkF m 177 #[.val (.ref ax), .val (.ref tx), .val (.int nn), .val (.int ((ff + (1 : Int32)) + (1 : Int32))), .val (.int ((ff + (1 : Int32)) + (1 : Int32))), .val (.int (1 : Int32)), .val (.ref wb), .val (.int (1 : Int32)), .val (.int (tt (((ff + (1 : Int32)) + (1 : Int32))).toNatClampNeg)), .val (.int (own_a (tt (((ff + (1 : Int32)) + (1 : Int32))).toNatClampNeg)))] [])) := fun tq kq => G466 tq (st469 _ kq)
              have G471 : Go p e below A0 (T469.setTop (mkF m 286 #[.val (.ref ax), .val (.ref tx), .val (.int nn), .val (.int (((ff + (1 : Int32)) + (1 : Int32)) + (1 : Int32))), .val (.int ((ff + (1 : Int32)) + (1 : Int32))), .val (.int (1 : Int32)), .val (.ref wb), .val (.int (1 : Int32)), .val (.int (tt (((ff + (1 : Int32)) + (1 : Int32))).toNatClampNeg)), .val (.int (own_a (tt (((ff + (1 : Int32)) + (1 : Int32))).toNatClampNeg)))] [(.int (((ff + (1 : Int32)) + (1 : Int32)) + (1 : Int32))), (.ref ax)])) := fun tq kq => G470 tq (by
                refine XS.iinc X469.here hx rfl (hb hby d6_177) rfl (l' := #[.val (.ref ax), .val (.ref tx), .val (.int nn), .val (.int (((ff + (1 : Int32)) + (1 : Int32)) + (1 : Int32))), .val (.int ((ff + (1 : Int32)) + (1 : Int32))), .val (.int (1 : Int32)), .val (.ref wb), .val (.int (1 : Int32)), .val (.int (tt (((ff + (1 : Int32)) + (1 : Int32))).toNatClampNeg)), .val (.int (own_a (tt (((ff + (1 : Int32)) + (1 : Int32))).toNatClampNeg)))]) rfl ?_
                show Steps p.tables e below (T469.setTop (mkF m 180 #[.val (.ref ax), .val (.ref tx), .val (.int nn), .val (.int (((ff + (1 : Int32)) + (1 : Int32)) + (1 : Int32))), .val (.int ((ff + (1 : Int32)) + (1 : Int32))), .val (.int (1 : Int32)), .val (.ref wb), .val (.int (1 : Int32)), .val (.int (tt (((ff + (1 : Int32)) + (1 : Int32))).toNatClampNeg)), .val (.int (own_a (tt (((ff + (1 : Int32)) + (1 : Int32))).toNatClampNeg)))] [])) _
                refine XS.goto X469.here hx rfl (pc0 := 180) (pc' := 213) rfl (hb hby d6_180) (by decide) (by decide) ?_
                show Steps p.tables e below (T469.setTop (mkF m 213 #[.val (.ref ax), .val (.ref tx), .val (.int nn), .val (.int (((ff + (1 : Int32)) + (1 : Int32)) + (1 : Int32))), .val (.int ((ff + (1 : Int32)) + (1 : Int32))), .val (.int (1 : Int32)), .val (.ref wb), .val (.int (1 : Int32)), .val (.int (tt (((ff + (1 : Int32)) + (1 : Int32))).toNatClampNeg)), .val (.int (own_a (tt (((ff + (1 : Int32)) + (1 : Int32))).toNatClampNeg)))] [])) _
                refine XS.goto X469.here hx rfl (pc0 := 213) (pc' := 114) rfl (hb hby d6_213) (by decide) (by decide) ?_
                show Steps p.tables e below (T469.setTop (mkF m 114 #[.val (.ref ax), .val (.ref tx), .val (.int nn), .val (.int (((ff + (1 : Int32)) + (1 : Int32)) + (1 : Int32))), .val (.int ((ff + (1 : Int32)) + (1 : Int32))), .val (.int (1 : Int32)), .val (.ref wb), .val (.int (1 : Int32)), .val (.int (tt (((ff + (1 : Int32)) + (1 : Int32))).toNatClampNeg)), .val (.int (own_a (tt (((ff + (1 : Int32)) + (1 : Int32))).toNatClampNeg)))] [])) _
                refine XS.iloadN X469.here hx rfl (hb hby d6_114) rfl ?_
                show Steps p.tables e below (T469.setTop (mkF m 115 #[.val (.ref ax), .val (.ref tx), .val (.int nn), .val (.int (((ff + (1 : Int32)) + (1 : Int32)) + (1 : Int32))), .val (.int ((ff + (1 : Int32)) + (1 : Int32))), .val (.int (1 : Int32)), .val (.ref wb), .val (.int (1 : Int32)), .val (.int (tt (((ff + (1 : Int32)) + (1 : Int32))).toNatClampNeg)), .val (.int (own_a (tt (((ff + (1 : Int32)) + (1 : Int32))).toNatClampNeg)))] [(.int (((ff + (1 : Int32)) + (1 : Int32)) + (1 : Int32)))])) _
                refine XS.iloadN X469.here hx rfl (hb hby d6_115) rfl ?_
                show Steps p.tables e below (T469.setTop (mkF m 116 #[.val (.ref ax), .val (.ref tx), .val (.int nn), .val (.int (((ff + (1 : Int32)) + (1 : Int32)) + (1 : Int32))), .val (.int ((ff + (1 : Int32)) + (1 : Int32))), .val (.int (1 : Int32)), .val (.ref wb), .val (.int (1 : Int32)), .val (.int (tt (((ff + (1 : Int32)) + (1 : Int32))).toNatClampNeg)), .val (.int (own_a (tt (((ff + (1 : Int32)) + (1 : Int32))).toNatClampNeg)))] [(.int nn), (.int (((ff + (1 : Int32)) + (1 : Int32)) + (1 : Int32)))])) _
                refine XS.icmpYes X469.here hx rfl (pc0 := 116) (pc' := 216) rfl (hb hby d6_116) rfl (flt mi455).2.1 (by decide) (by decide) ?_
                show Steps p.tables e below (T469.setTop (mkF m 216 #[.val (.ref ax), .val (.ref tx), .val (.int nn), .val (.int (((ff + (1 : Int32)) + (1 : Int32)) + (1 : Int32))), .val (.int ((ff + (1 : Int32)) + (1 : Int32))), .val (.int (1 : Int32)), .val (.ref wb), .val (.int (1 : Int32)), .val (.int (tt (((ff + (1 : Int32)) + (1 : Int32))).toNatClampNeg)), .val (.int (own_a (tt (((ff + (1 : Int32)) + (1 : Int32))).toNatClampNeg)))] [])) _
                refine XS.iload X469.here hx rfl (hb hby d6_216) rfl ?_
                show Steps p.tables e below (T469.setTop (mkF m 218 #[.val (.ref ax), .val (.ref tx), .val (.int nn), .val (.int (((ff + (1 : Int32)) + (1 : Int32)) + (1 : Int32))), .val (.int ((ff + (1 : Int32)) + (1 : Int32))), .val (.int (1 : Int32)), .val (.ref wb), .val (.int (1 : Int32)), .val (.int (tt (((ff + (1 : Int32)) + (1 : Int32))).toNatClampNeg)), .val (.int (own_a (tt (((ff + (1 : Int32)) + (1 : Int32))).toNatClampNeg)))] [(.int (1 : Int32))])) _
                refine XS.ifYes X469.here hx rfl (pc0 := 218) (pc' := 284) rfl (hb hby d6_218) rfl (by decide) (by decide) (by decide) ?_
                show Steps p.tables e below (T469.setTop (mkF m 284 #[.val (.ref ax), .val (.ref tx), .val (.int nn), .val (.int (((ff + (1 : Int32)) + (1 : Int32)) + (1 : Int32))), .val (.int ((ff + (1 : Int32)) + (1 : Int32))), .val (.int (1 : Int32)), .val (.ref wb), .val (.int (1 : Int32)), .val (.int (tt (((ff + (1 : Int32)) + (1 : Int32))).toNatClampNeg)), .val (.int (own_a (tt (((ff + (1 : Int32)) + (1 : Int32))).toNatClampNeg)))] [])) _
                refine XS.aloadN X469.here hx rfl (hb hby d6_284) rfl rfl ?_
                show Steps p.tables e below (T469.setTop (mkF m 285 #[.val (.ref ax), .val (.ref tx), .val (.int nn), .val (.int (((ff + (1 : Int32)) + (1 : Int32)) + (1 : Int32))), .val (.int ((ff + (1 : Int32)) + (1 : Int32))), .val (.int (1 : Int32)), .val (.ref wb), .val (.int (1 : Int32)), .val (.int (tt (((ff + (1 : Int32)) + (1 : Int32))).toNatClampNeg)), .val (.int (own_a (tt (((ff + (1 : Int32)) + (1 : Int32))).toNatClampNeg)))] [(.ref ax)])) _
                refine XS.iloadN X469.here hx rfl (hb hby d6_285) rfl ?_
                show Steps p.tables e below (T469.setTop (mkF m 286 #[.val (.ref ax), .val (.ref tx), .val (.int nn), .val (.int (((ff + (1 : Int32)) + (1 : Int32)) + (1 : Int32))), .val (.int ((ff + (1 : Int32)) + (1 : Int32))), .val (.int (1 : Int32)), .val (.ref wb), .val (.int (1 : Int32)), .val (.int (tt (((ff + (1 : Int32)) + (1 : Int32))).toNatClampNeg)), .val (.int (own_a (tt (((ff + (1 : Int32)) + (1 : Int32))).toNatClampNeg)))] [(.int (((ff + (1 : Int32)) + (1 : Int32)) + (1 : Int32))), (.ref ax)])) _
                exact kq)
              have f472 := ((E.wr W445).wr W469)
              have f473 := (fw445.other W469 (Or.inl haw))
              obtain ⟨T474, h474, X474, e474, W474, st474⟩ := putF X469 hx hZ hown (host := "") (Or.inl (hw _ (List.mem_of_getElem? (i := 27) rfl))) Via.refl e469 f473 f472 (Or.inl (hw _ (List.mem_of_getElem? (i := 28) rfl))) (hw _ (List.mem_of_getElem? (i := 9) rfl)) (ty := .int) (by decide) rfl rfl (g := (mkF m 286 #[.val (.ref ax), .val (.ref tx), .val (.int nn), .val (.int (((ff + (1 : Int32)) + (1 : Int32)) + (1 : Int32))), .val (.int ((ff + (1 : Int32)) + (1 : Int32))), .val (.int (1 : Int32)), .val (.ref wb), .val (.int (1 : Int32)), .val (.int (tt (((ff + (1 : Int32)) + (1 : Int32))).toNatClampNeg)), .val (.int (own_a (tt (((ff + (1 : Int32)) + (1 : Int32))).toNatClampNeg)))] [(.int (((ff + (1 : Int32)) + (1 : Int32)) + (1 : Int32))), (.ref ax)])) rfl rfl (hb hby d6_286)
              have N474 := Fr.snoc X474 N469 gax
              have fw474 := f473.same W474
              have G475 : Go p e below A0 (T474.setTop (mkF m 289 #[.val (.ref ax), .val (.ref tx), .val (.int nn), .val (.int (((ff + (1 : Int32)) + (1 : Int32)) + (1 : Int32))), .val (.int ((ff + (1 : Int32)) + (1 : Int32))), .val (.int (1 : Int32)), .val (.ref wb), .val (.int (1 : Int32)), .val (.int (tt (((ff + (1 : Int32)) + (1 : Int32))).toNatClampNeg)), .val (.int (own_a (tt (((ff + (1 : Int32)) + (1 : Int32))).toNatClampNeg)))] [])) := fun tq kq => G471 tq (st474 _ kq)
              have G476 : Go p e below A0 (T474.setTop (mkF m 292 #[.val (.ref ax), .val (.ref tx), .val (.int nn), .val (.int (((ff + (1 : Int32)) + (1 : Int32)) + (1 : Int32))), .val (.int ((ff + (1 : Int32)) + (1 : Int32))), .val (.int (1 : Int32)), .val (.ref wb), .val (.int (1 : Int32)), .val (.int (tt (((ff + (1 : Int32)) + (1 : Int32))).toNatClampNeg)), .val (.int (own_a (tt (((ff + (1 : Int32)) + (1 : Int32))).toNatClampNeg)))] [(.ref wb), (.ref ax)])) := fun tq kq => G475 tq (by
                refine XS.aloadN X474.here hx rfl (hb hby d6_289) rfl rfl ?_
                show Steps p.tables e below (T474.setTop (mkF m 290 #[.val (.ref ax), .val (.ref tx), .val (.int nn), .val (.int (((ff + (1 : Int32)) + (1 : Int32)) + (1 : Int32))), .val (.int ((ff + (1 : Int32)) + (1 : Int32))), .val (.int (1 : Int32)), .val (.ref wb), .val (.int (1 : Int32)), .val (.int (tt (((ff + (1 : Int32)) + (1 : Int32))).toNatClampNeg)), .val (.int (own_a (tt (((ff + (1 : Int32)) + (1 : Int32))).toNatClampNeg)))] [(.ref ax)])) _
                refine XS.aload X474.here hx rfl (hb hby d6_290) rfl rfl ?_
                show Steps p.tables e below (T474.setTop (mkF m 292 #[.val (.ref ax), .val (.ref tx), .val (.int nn), .val (.int (((ff + (1 : Int32)) + (1 : Int32)) + (1 : Int32))), .val (.int ((ff + (1 : Int32)) + (1 : Int32))), .val (.int (1 : Int32)), .val (.ref wb), .val (.int (1 : Int32)), .val (.int (tt (((ff + (1 : Int32)) + (1 : Int32))).toNatClampNeg)), .val (.int (own_a (tt (((ff + (1 : Int32)) + (1 : Int32))).toNatClampNeg)))] [(.ref wb), (.ref ax)])) _
                exact kq)
              have f477 := (f472.wr W474)
              have f478 := ((f448.other W469 (Or.inl haw)).other W474 (Or.inr (slot_ne (Or.inl (hw _ (List.mem_of_getElem? (i := 19) rfl))) (Or.inl (hw _ (List.mem_of_getElem? (i := 28) rfl))) (by decide) (t := (.array .byte)) (t' := .int) (by decide) (by decide))))
              obtain ⟨T479, h479, X479, e479, W479, st479⟩ := putF X474 hx hZ hown (host := "") (Or.inl (hw _ (List.mem_of_getElem? (i := 18) rfl))) Via.refl e474 f478 f477 (Or.inl (hw _ (List.mem_of_getElem? (i := 19) rfl))) (hw _ (List.mem_of_getElem? (i := 9) rfl)) (ty := (.array .byte)) (by decide) rfl rfl (g := (mkF m 292 #[.val (.ref ax), .val (.ref tx), .val (.int nn), .val (.int (((ff + (1 : Int32)) + (1 : Int32)) + (1 : Int32))), .val (.int ((ff + (1 : Int32)) + (1 : Int32))), .val (.int (1 : Int32)), .val (.ref wb), .val (.int (1 : Int32)), .val (.int (tt (((ff + (1 : Int32)) + (1 : Int32))).toNatClampNeg)), .val (.int (own_a (tt (((ff + (1 : Int32)) + (1 : Int32))).toNatClampNeg)))] [(.ref wb), (.ref ax)])) rfl rfl (hb hby d6_292)
              have N479 := Fr.snoc X479 N474 gax
              have fw479 := f478.same W479
              have G480 : Go p e below A0 (T479.setTop (mkF m 295 #[.val (.ref ax), .val (.ref tx), .val (.int nn), .val (.int (((ff + (1 : Int32)) + (1 : Int32)) + (1 : Int32))), .val (.int ((ff + (1 : Int32)) + (1 : Int32))), .val (.int (1 : Int32)), .val (.ref wb), .val (.int (1 : Int32)), .val (.int (tt (((ff + (1 : Int32)) + (1 : Int32))).toNatClampNeg)), .val (.int (own_a (tt (((ff + (1 : Int32)) + (1 : Int32))).toNatClampNeg)))] [])) := fun tq kq => G476 tq (st479 _ kq)
              have G481 : Go p e below A0 (T479.setTop (mkF m 298 #[.val (.ref ax), .val (.ref tx), .val (.int nn), .val (.int (((ff + (1 : Int32)) + (1 : Int32)) + (1 : Int32))), .val (.int ((ff + (1 : Int32)) + (1 : Int32))), .val (.int (1 : Int32)), .val (.ref wb), .val (.int (1 : Int32)), .val (.int (tt (((ff + (1 : Int32)) + (1 : Int32))).toNatClampNeg)), .val (.int (own_a (tt (((ff + (1 : Int32)) + (1 : Int32))).toNatClampNeg)))] [(.int (1 : Int32)), (.ref ax)])) := fun tq kq => G480 tq (by
                refine XS.aloadN X479.here hx rfl (hb hby d6_295) rfl rfl ?_
                show Steps p.tables e below (T479.setTop (mkF m 296 #[.val (.ref ax), .val (.ref tx), .val (.int nn), .val (.int (((ff + (1 : Int32)) + (1 : Int32)) + (1 : Int32))), .val (.int ((ff + (1 : Int32)) + (1 : Int32))), .val (.int (1 : Int32)), .val (.ref wb), .val (.int (1 : Int32)), .val (.int (tt (((ff + (1 : Int32)) + (1 : Int32))).toNatClampNeg)), .val (.int (own_a (tt (((ff + (1 : Int32)) + (1 : Int32))).toNatClampNeg)))] [(.ref ax)])) _
                refine XS.iload X479.here hx rfl (hb hby d6_296) rfl ?_
                show Steps p.tables e below (T479.setTop (mkF m 298 #[.val (.ref ax), .val (.ref tx), .val (.int nn), .val (.int (((ff + (1 : Int32)) + (1 : Int32)) + (1 : Int32))), .val (.int ((ff + (1 : Int32)) + (1 : Int32))), .val (.int (1 : Int32)), .val (.ref wb), .val (.int (1 : Int32)), .val (.int (tt (((ff + (1 : Int32)) + (1 : Int32))).toNatClampNeg)), .val (.int (own_a (tt (((ff + (1 : Int32)) + (1 : Int32))).toNatClampNeg)))] [(.int (1 : Int32)), (.ref ax)])) _
                exact kq)
              have f482 := (f477.wr W479)
              have f483 := ((((F_length.other W445 (Or.inr (slot_ne (Or.inl (hw _ (List.mem_of_getElem? (i := 32) rfl))) (Or.inl (hw _ (List.mem_of_getElem? (i := 28) rfl))) (by decide) (t := .int) (t' := .int) (by decide) (by decide)))).other W469 (Or.inl haw)).other W474 (Or.inr (slot_ne (Or.inl (hw _ (List.mem_of_getElem? (i := 32) rfl))) (Or.inl (hw _ (List.mem_of_getElem? (i := 28) rfl))) (by decide) (t := .int) (t' := .int) (by decide) (by decide)))).other W479 (Or.inr (slot_ne (Or.inl (hw _ (List.mem_of_getElem? (i := 32) rfl))) (Or.inl (hw _ (List.mem_of_getElem? (i := 19) rfl))) (by decide) (t := .int) (t' := (.array .byte)) (by decide) (by decide))))
              obtain ⟨T484, h484, X484, e484, W484, st484⟩ := putF X479 hx hZ hown (host := "") (Or.inl (hw _ (List.mem_of_getElem? (i := 31) rfl))) Via.refl e479 f483 f482 (Or.inl (hw _ (List.mem_of_getElem? (i := 32) rfl))) (hw _ (List.mem_of_getElem? (i := 9) rfl)) (ty := .int) (by decide) rfl rfl (g := (mkF m 298 #[.val (.ref ax), .val (.ref tx), .val (.int nn), .val (.int (((ff + (1 : Int32)) + (1 : Int32)) + (1 : Int32))), .val (.int ((ff + (1 : Int32)) + (1 : Int32))), .val (.int (1 : Int32)), .val (.ref wb), .val (.int (1 : Int32)), .val (.int (tt (((ff + (1 : Int32)) + (1 : Int32))).toNatClampNeg)), .val (.int (own_a (tt (((ff + (1 : Int32)) + (1 : Int32))).toNatClampNeg)))] [(.int (1 : Int32)), (.ref ax)])) rfl rfl (hb hby d6_298)
              have N484 := Fr.snoc X484 N479 gax
              have fw484 := f483.same W484
              have G485 : Go p e below A0 (T484.setTop (mkF m 301 #[.val (.ref ax), .val (.ref tx), .val (.int nn), .val (.int (((ff + (1 : Int32)) + (1 : Int32)) + (1 : Int32))), .val (.int ((ff + (1 : Int32)) + (1 : Int32))), .val (.int (1 : Int32)), .val (.ref wb), .val (.int (1 : Int32)), .val (.int (tt (((ff + (1 : Int32)) + (1 : Int32))).toNatClampNeg)), .val (.int (own_a (tt (((ff + (1 : Int32)) + (1 : Int32))).toNatClampNeg)))] [])) := fun tq kq => G481 tq (st484 _ kq)
              have G486 : Go p e below A0 (T484.setTop (mkF m 302 #[.val (.ref ax), .val (.ref tx), .val (.int nn), .val (.int (((ff + (1 : Int32)) + (1 : Int32)) + (1 : Int32))), .val (.int ((ff + (1 : Int32)) + (1 : Int32))), .val (.int (1 : Int32)), .val (.ref wb), .val (.int (1 : Int32)), .val (.int (tt (((ff + (1 : Int32)) + (1 : Int32))).toNatClampNeg)), .val (.int (own_a (tt (((ff + (1 : Int32)) + (1 : Int32))).toNatClampNeg)))] [(.int (1 : Int32))])) := fun tq kq => G485 tq (by
                refine XS.iconst X484.here hx rfl (hb hby d6_301) ?_
                show Steps p.tables e below (T484.setTop (mkF m 302 #[.val (.ref ax), .val (.ref tx), .val (.int nn), .val (.int (((ff + (1 : Int32)) + (1 : Int32)) + (1 : Int32))), .val (.int ((ff + (1 : Int32)) + (1 : Int32))), .val (.int (1 : Int32)), .val (.ref wb), .val (.int (1 : Int32)), .val (.int (tt (((ff + (1 : Int32)) + (1 : Int32))).toNatClampNeg)), .val (.int (own_a (tt (((ff + (1 : Int32)) + (1 : Int32))).toNatClampNeg)))] [(.int (1 : Int32))])) _
                exact kq)
              have f487 := (((((F_text.other W445 (Or.inr (slot_ne (Or.inl (hw _ (List.mem_of_getElem? (i := 26) rfl))) (Or.inl (hw _ (List.mem_of_getElem? (i := 28) rfl))) (by decide) (t := (.array .char)) (t' := .int) (by decide) (by decide)))).other W469 (Or.inl haw)).other W474 (Or.inr (slot_ne (Or.inl (hw _ (List.mem_of_getElem? (i := 26) rfl))) (Or.inl (hw _ (List.mem_of_getElem? (i := 28) rfl))) (by decide) (t := (.array .char)) (t' := .int) (by decide) (by decide)))).other W479 (Or.inr (slot_ne (Or.inl (hw _ (List.mem_of_getElem? (i := 26) rfl))) (Or.inl (hw _ (List.mem_of_getElem? (i := 19) rfl))) (by decide) (t := (.array .char)) (t' := (.array .byte)) (by decide) (by decide)))).other W484 (Or.inr (slot_ne (Or.inl (hw _ (List.mem_of_getElem? (i := 26) rfl))) (Or.inl (hw _ (List.mem_of_getElem? (i := 32) rfl))) (by decide) (t := (.array .char)) (t' := .int) (by decide) (by decide))))
              have f488 := ((fw474.other W479 (Or.inr (slot_ne (Or.inl (hw _ (List.mem_of_getElem? (i := 28) rfl))) (Or.inl (hw _ (List.mem_of_getElem? (i := 19) rfl))) (by decide) (t := .int) (t' := (.array .byte)) (by decide) (by decide)))).other W484 (Or.inr (slot_ne (Or.inl (hw _ (List.mem_of_getElem? (i := 28) rfl))) (Or.inl (hw _ (List.mem_of_getElem? (i := 32) rfl))) (by decide) (t := .int) (t' := .int) (by decide) (by decide))))
              have f489 := (((((F_to.other W445 (Or.inr (slot_ne (Or.inl (hw _ (List.mem_of_getElem? (i := 30) rfl))) (Or.inl (hw _ (List.mem_of_getElem? (i := 28) rfl))) (by decide) (t := .int) (t' := .int) (by decide) (by decide)))).other W469 (Or.inl haw)).other W474 (Or.inr (slot_ne (Or.inl (hw _ (List.mem_of_getElem? (i := 30) rfl))) (Or.inl (hw _ (List.mem_of_getElem? (i := 28) rfl))) (by decide) (t := .int) (t' := .int) (by decide) (by decide)))).other W479 (Or.inr (slot_ne (Or.inl (hw _ (List.mem_of_getElem? (i := 30) rfl))) (Or.inl (hw _ (List.mem_of_getElem? (i := 19) rfl))) (by decide) (t := .int) (t' := (.array .byte)) (by decide) (by decide)))).other W484 (Or.inr (slot_ne (Or.inl (hw _ (List.mem_of_getElem? (i := 30) rfl))) (Or.inl (hw _ (List.mem_of_getElem? (i := 32) rfl))) (by decide) (t := .int) (t' := .int) (by decide) (by decide))))
              have f490 := (fw479.other W484 (Or.inr (slot_ne (Or.inl (hw _ (List.mem_of_getElem? (i := 19) rfl))) (Or.inl (hw _ (List.mem_of_getElem? (i := 32) rfl))) (by decide) (t := (.array .byte)) (t' := .int) (by decide) (by decide))))
              have f491 := (((V469.other W474 (Ne.symm haw)).other W479 (Ne.symm haw)).other W484 (Ne.symm haw))
              have e1 : sv = ((ff + (1 : Int32)) + (1 : Int32)) := by rw [hS]; simp only [own_b, own_st, hc112, hc124, hc304, hc316, hc431, mi435, hc443, mi455, not_true_eq_false, not_false_eq_true, if_true, if_false, or_true, true_or, or_false, false_or, and_true, true_and, and_false, false_and, and_self, or_self]
              have e2 : ev = (((ff + (1 : Int32)) + (1 : Int32)) + (1 : Int32)) := by rw [hE, e1]; simp only [own_b, own_en, hc112, hc124, hc304, hc316, hc431, mi435, hc443, mi455, not_true_eq_false, not_false_eq_true, if_true, if_false, or_true, true_or, or_false, false_or, and_true, true_and, and_false, false_and, and_self, or_self]
              obtain ⟨fs, hr, hrun, hended, hW, hsame⟩ := X484.leave (v := some (.int (nar .boolean (1 : Int32)))) (fun h => by rw [Bd.returns] at h; cases h)
              refine ⟨_, _, (by rw [← hA0]; exact G486 _ (retN X484 hx (t := .boolean) Bd.returns (by simp) (hb hby d6_302) hr)), hrun, hended, _, _, rfl, ?_, ⟨_, rfl⟩, hW, hsame.mono (by decide) (by decide)⟩
              show Qnx Z ax tx wb tt nn sv ev kw h0 n0 _ T484.heap _
              rw [e484]
              rw [e1, e2]
              exact ⟨(own_up gw 0 (own_a (tt (((ff + (1 : Int32)) + (1 : Int32))).toNatClampNeg))), (by rw [own_bt (own_ltne hc431)]; rfl), N484, ((((((Keep.refl h0 [ax, wb]).wr W445 (Or.inl (List.mem_of_getElem? (i := 0) rfl))).wr W469 (Or.inl (List.mem_of_getElem? (i := 1) rfl))).wr W474 (Or.inl (List.mem_of_getElem? (i := 0) rfl))).wr W479 (Or.inl (List.mem_of_getElem? (i := 0) rfl))).wr W484 (Or.inl (List.mem_of_getElem? (i := 0) rfl))), f487, f488, f489, (by rw [← own_d1]; exact fw484), f490, f491, own_ct1 zi308 (own_le3 li308 hn3) hc443⟩
            · have G492 : Go p e below A0 (T437.setTop (mkF m 89 #[.val (.ref ax), .val (.ref tx), .val (.int nn), .val (.int (((ff + (1 : Int32)) + (1 : Int32)) + (1 : Int32))), .val (.int (tt (((ff + (1 : Int32)) + (1 : Int32))).toNatClampNeg)), .unset, .unset, .unset, .unset, .unset] [(.int (((ff + (1 : Int32)) + (1 : Int32)) + (1 : Int32))), (.ref ax)])) := fun tq kq => G442 tq (by
                refine XS.ifYes X437.here hx rfl (pc0 := 39) (pc' := 60) rfl (hb hby d6_39) rfl ((if0 _ _).trans (teq (own_a0 hc443)).1) (by decide) (by decide) ?_
                show Steps p.tables e below (T437.setTop (mkF m 60 #[.val (.ref ax), .val (.ref tx), .val (.int nn), .val (.int ((ff + (1 : Int32)) + (1 : Int32))), .val (.int (tt (((ff + (1 : Int32)) + (1 : Int32))).toNatClampNeg)), .unset, .unset, .unset, .unset, .unset] [])) _
                refine XS.iloadN X437.here hx rfl (hb hby d6_60) rfl ?_
                show Steps p.tables e below (T437.setTop (mkF m 61 #[.val (.ref ax), .val (.ref tx), .val (.int nn), .val (.int ((ff + (1 : Int32)) + (1 : Int32))), .val (.int (tt (((ff + (1 : Int32)) + (1 : Int32))).toNatClampNeg)), .unset, .unset, .unset, .unset, .unset] [(.int ((ff + (1 : Int32)) + (1 : Int32)))])) _
                refine XS.iload X437.here hx rfl (hb hby d6_61) rfl ?_
                show Steps p.tables e below (T437.setTop (mkF m 63 #[.val (.ref ax), .val (.ref tx), .val (.int nn), .val (.int ((ff + (1 : Int32)) + (1 : Int32))), .val (.int (tt (((ff + (1 : Int32)) + (1 : Int32))).toNatClampNeg)), .unset, .unset, .unset, .unset, .unset] [(.int (tt (((ff + (1 : Int32)) + (1 : Int32))).toNatClampNeg)), (.int ((ff + (1 : Int32)) + (1 : Int32)))])) _
                refine XS.sipush X437.here hx rfl (hb hby d6_63) ?_
                show Steps p.tables e below (T437.setTop (mkF m 66 #[.val (.ref ax), .val (.ref tx), .val (.int nn), .val (.int ((ff + (1 : Int32)) + (1 : Int32))), .val (.int (tt (((ff + (1 : Int32)) + (1 : Int32))).toNatClampNeg)), .unset, .unset, .unset, .unset, .unset] [(.int (128 : Int32)), (.int (tt (((ff + (1 : Int32)) + (1 : Int32))).toNatClampNeg)), (.int ((ff + (1 : Int32)) + (1 : Int32)))])) _
                refine XS.icmpNo X437.here hx rfl (hb hby d6_66) rfl (tlt ri435.2).2.1 ?_
                show Steps p.tables e below (T437.setTop (mkF m 69 #[.val (.ref ax), .val (.ref tx), .val (.int nn), .val (.int ((ff + (1 : Int32)) + (1 : Int32))), .val (.int (tt (((ff + (1 : Int32)) + (1 : Int32))).toNatClampNeg)), .unset, .unset, .unset, .unset, .unset] [(.int ((ff + (1 : Int32)) + (1 : Int32)))])) _
                refine XS.iconst X437.here hx rfl (hb hby d6_69) ?_
                show Steps p.tables e below (T437.setTop (mkF m 70 #[.val (.ref ax), .val (.ref tx), .val (.int nn), .val (.int ((ff + (1 : Int32)) + (1 : Int32))), .val (.int (tt (((ff + (1 : Int32)) + (1 : Int32))).toNatClampNeg)), .unset, .unset, .unset, .unset, .unset] [(.int (1 : Int32)), (.int ((ff + (1 : Int32)) + (1 : Int32)))])) _
                refine XS.goto X437.here hx rfl (pc0 := 70) (pc' := 82) rfl (hb hby d6_70) (by decide) (by decide) ?_
                show Steps p.tables e below (T437.setTop (mkF m 82 #[.val (.ref ax), .val (.ref tx), .val (.int nn), .val (.int ((ff + (1 : Int32)) + (1 : Int32))), .val (.int (tt (((ff + (1 : Int32)) + (1 : Int32))).toNatClampNeg)), .unset, .unset, .unset, .unset, .unset] [(.int (1 : Int32)), (.int ((ff + (1 : Int32)) + (1 : Int32)))])) _
                refine XS.iadd X437.here hx rfl (hb hby d6_82) rfl ?_
                show Steps p.tables e below (T437.setTop (mkF m 83 #[.val (.ref ax), .val (.ref tx), .val (.int nn), .val (.int ((ff + (1 : Int32)) + (1 : Int32))), .val (.int (tt (((ff + (1 : Int32)) + (1 : Int32))).toNatClampNeg)), .unset, .unset, .unset, .unset, .unset] [(.int (((ff + (1 : Int32)) + (1 : Int32)) + (1 : Int32)))])) _
                refine XS.istoreN X437.here hx rfl (hb hby d6_83) rfl (l' := #[.val (.ref ax), .val (.ref tx), .val (.int nn), .val (.int (((ff + (1 : Int32)) + (1 : Int32)) + (1 : Int32))), .val (.int (tt (((ff + (1 : Int32)) + (1 : Int32))).toNatClampNeg)), .unset, .unset, .unset, .unset, .unset]) rfl ?_
                show Steps p.tables e below (T437.setTop (mkF m 84 #[.val (.ref ax), .val (.ref tx), .val (.int nn), .val (.int (((ff + (1 : Int32)) + (1 : Int32)) + (1 : Int32))), .val (.int (tt (((ff + (1 : Int32)) + (1 : Int32))).toNatClampNeg)), .unset, .unset, .unset, .unset, .unset] [])) _
                refine XS.goto X437.here hx rfl (pc0 := 84) (pc' := 15) rfl (hb hby d6_84) (by decide) (by decide) ?_
                show Steps p.tables e below (T437.setTop (mkF m 15 #[.val (.ref ax), .val (.ref tx), .val (.int nn), .val (.int (((ff + (1 : Int32)) + (1 : Int32)) + (1 : Int32))), .val (.int (tt (((ff + (1 : Int32)) + (1 : Int32))).toNatClampNeg)), .unset, .unset, .unset, .unset, .unset] [])) _
                refine XS.iloadN X437.here hx rfl (hb hby d6_15) rfl ?_
                show Steps p.tables e below (T437.setTop (mkF m 16 #[.val (.ref ax), .val (.ref tx), .val (.int nn), .val (.int (((ff + (1 : Int32)) + (1 : Int32)) + (1 : Int32))), .val (.int (tt (((ff + (1 : Int32)) + (1 : Int32))).toNatClampNeg)), .unset, .unset, .unset, .unset, .unset] [(.int (((ff + (1 : Int32)) + (1 : Int32)) + (1 : Int32)))])) _
                refine XS.iloadN X437.here hx rfl (hb hby d6_16) rfl ?_
                show Steps p.tables e below (T437.setTop (mkF m 17 #[.val (.ref ax), .val (.ref tx), .val (.int nn), .val (.int (((ff + (1 : Int32)) + (1 : Int32)) + (1 : Int32))), .val (.int (tt (((ff + (1 : Int32)) + (1 : Int32))).toNatClampNeg)), .unset, .unset, .unset, .unset, .unset] [(.int nn), (.int (((ff + (1 : Int32)) + (1 : Int32)) + (1 : Int32)))])) _
                refine XS.icmpYes X437.here hx rfl (pc0 := 17) (pc' := 87) rfl (hb hby d6_17) rfl (flt mi435).2.1 (by decide) (by decide) ?_
                show Steps p.tables e below (T437.setTop (mkF m 87 #[.val (.ref ax), .val (.ref tx), .val (.int nn), .val (.int (((ff + (1 : Int32)) + (1 : Int32)) + (1 : Int32))), .val (.int (tt (((ff + (1 : Int32)) + (1 : Int32))).toNatClampNeg)), .unset, .unset, .unset, .unset, .unset] [])) _
                refine XS.aloadN X437.here hx rfl (hb hby d6_87) rfl rfl ?_
                show Steps p.tables e below (T437.setTop (mkF m 88 #[.val (.ref ax), .val (.ref tx), .val (.int nn), .val (.int (((ff + (1 : Int32)) + (1 : Int32)) + (1 : Int32))), .val (.int (tt (((ff + (1 : Int32)) + (1 : Int32))).toNatClampNeg)), .unset, .unset, .unset, .unset, .unset] [(.ref ax)])) _
                refine XS.iloadN X437.here hx rfl (hb hby d6_88) rfl ?_
                show Steps p.tables e below (T437.setTop (mkF m 89 #[.val (.ref ax), .val (.ref tx), .val (.int nn), .val (.int (((ff + (1 : Int32)) + (1 : Int32)) + (1 : Int32))), .val (.int (tt (((ff + (1 : Int32)) + (1 : Int32))).toNatClampNeg)), .unset, .unset, .unset, .unset, .unset] [(.int (((ff + (1 : Int32)) + (1 : Int32)) + (1 : Int32))), (.ref ax)])) _
                exact kq)
              obtain ⟨T493, h493, X493, e493, W493, st493⟩ := putF X437 hx hZ hown (host := "") (Or.inl (hw _ (List.mem_of_getElem? (i := 27) rfl))) Via.refl e437 F_at E (Or.inl (hw _ (List.mem_of_getElem? (i := 28) rfl))) (hw _ (List.mem_of_getElem? (i := 9) rfl)) (ty := .int) (by decide) rfl rfl (g := (mkF m 89 #[.val (.ref ax), .val (.ref tx), .val (.int nn), .val (.int (((ff + (1 : Int32)) + (1 : Int32)) + (1 : Int32))), .val (.int (tt (((ff + (1 : Int32)) + (1 : Int32))).toNatClampNeg)), .unset, .unset, .unset, .unset, .unset] [(.int (((ff + (1 : Int32)) + (1 : Int32)) + (1 : Int32))), (.ref ax)])) rfl rfl (hb hby d6_89)
              have N493 := Fr.snoc X493 N0 gax
              have fw493 := F_at.same W493
              have G494 : Go p e below A0 (T493.setTop (mkF m 92 #[.val (.ref ax), .val (.ref tx), .val (.int nn), .val (.int (((ff + (1 : Int32)) + (1 : Int32)) + (1 : Int32))), .val (.int (tt (((ff + (1 : Int32)) + (1 : Int32))).toNatClampNeg)), .unset, .unset, .unset, .unset, .unset] [])) := fun tq kq => G492 tq (st493 _ kq)
              have G495 : Go p e below A0 (T493.setTop (mkF m 98 #[.val (.ref ax), .val (.ref tx), .val (.int nn), .val (.int (((ff + (1 : Int32)) + (1 : Int32)) + (1 : Int32))), .val (.int (tt (((ff + (1 : Int32)) + (1 : Int32))).toNatClampNeg)), .unset, .unset, .unset, .unset, .unset] [(.int (0 : Int32))])) := fun tq kq => G494 tq (by
                refine XS.iloadN X493.here hx rfl (hb hby d6_92) rfl ?_
                show Steps p.tables e below (T493.setTop (mkF m 93 #[.val (.ref ax), .val (.ref tx), .val (.int nn), .val (.int (((ff + (1 : Int32)) + (1 : Int32)) + (1 : Int32))), .val (.int (tt (((ff + (1 : Int32)) + (1 : Int32))).toNatClampNeg)), .unset, .unset, .unset, .unset, .unset] [(.int (((ff + (1 : Int32)) + (1 : Int32)) + (1 : Int32)))])) _
                refine XS.iloadN X493.here hx rfl (hb hby d6_93) rfl ?_
                show Steps p.tables e below (T493.setTop (mkF m 94 #[.val (.ref ax), .val (.ref tx), .val (.int nn), .val (.int (((ff + (1 : Int32)) + (1 : Int32)) + (1 : Int32))), .val (.int (tt (((ff + (1 : Int32)) + (1 : Int32))).toNatClampNeg)), .unset, .unset, .unset, .unset, .unset] [(.int nn), (.int (((ff + (1 : Int32)) + (1 : Int32)) + (1 : Int32)))])) _
                refine XS.icmpNo X493.here hx rfl (hb hby d6_94) rfl (teq (own_eqn li435 mi435)).2 ?_
                show Steps p.tables e below (T493.setTop (mkF m 97 #[.val (.ref ax), .val (.ref tx), .val (.int nn), .val (.int (((ff + (1 : Int32)) + (1 : Int32)) + (1 : Int32))), .val (.int (tt (((ff + (1 : Int32)) + (1 : Int32))).toNatClampNeg)), .unset, .unset, .unset, .unset, .unset] [])) _
                refine XS.iconst X493.here hx rfl (hb hby d6_97) ?_
                show Steps p.tables e below (T493.setTop (mkF m 98 #[.val (.ref ax), .val (.ref tx), .val (.int nn), .val (.int (((ff + (1 : Int32)) + (1 : Int32)) + (1 : Int32))), .val (.int (tt (((ff + (1 : Int32)) + (1 : Int32))).toNatClampNeg)), .unset, .unset, .unset, .unset, .unset] [(.int (0 : Int32))])) _
                exact kq)
              have f496 := (F_text.other W493 (Or.inr (slot_ne (Or.inl (hw _ (List.mem_of_getElem? (i := 26) rfl))) (Or.inl (hw _ (List.mem_of_getElem? (i := 28) rfl))) (by decide) (t := (.array .char)) (t' := .int) (by decide) (by decide))))
              have f497 := (F_to.other W493 (Or.inr (slot_ne (Or.inl (hw _ (List.mem_of_getElem? (i := 30) rfl))) (Or.inl (hw _ (List.mem_of_getElem? (i := 28) rfl))) (by decide) (t := .int) (t' := .int) (by decide) (by decide))))
              have f498 := (F_length.other W493 (Or.inr (slot_ne (Or.inl (hw _ (List.mem_of_getElem? (i := 32) rfl))) (Or.inl (hw _ (List.mem_of_getElem? (i := 28) rfl))) (by decide) (t := .int) (t' := .int) (by decide) (by decide))))
              have f499 := (F_word.other W493 (Or.inr (slot_ne (Or.inl (hw _ (List.mem_of_getElem? (i := 19) rfl))) (Or.inl (hw _ (List.mem_of_getElem? (i := 28) rfl))) (by decide) (t := (.array .byte)) (t' := .int) (by decide) (by decide))))
              have f500 := (Aw.other W493 (Ne.symm haw))
              have e1 : sv = (((ff + (1 : Int32)) + (1 : Int32)) + (1 : Int32)) := by rw [hS]; simp only [own_b, own_st, hc112, hc124, hc304, hc316, hc431, mi435, hc443, not_true_eq_false, not_false_eq_true, if_true, if_false, or_true, true_or, or_false, false_or, and_true, true_and, and_false, false_and, and_self, or_self]
              have e2 : ev = (((ff + (1 : Int32)) + (1 : Int32)) + (1 : Int32)) := by rw [hE, e1]; simp only [own_b, own_en, hc112, hc124, hc304, hc316, hc431, mi435, hc443, not_true_eq_false, not_false_eq_true, if_true, if_false, or_true, true_or, or_false, false_or, and_true, true_and, and_false, false_and, and_self, or_self]
              obtain ⟨fs, hr, hrun, hended, hW, hsame⟩ := X493.leave (v := some (.int (nar .boolean (0 : Int32)))) (fun h => by rw [Bd.returns] at h; cases h)
              refine ⟨_, _, (by rw [← hA0]; exact G495 _ (retN X493 hx (t := .boolean) Bd.returns (by simp) (hb hby d6_98) hr)), hrun, hended, _, _, rfl, ?_, ⟨_, rfl⟩, hW, hsame.mono (by decide) (by decide)⟩
              show Qnx Z ax tx wb tt nn sv ev kw h0 n0 _ T493.heap _
              rw [e493]
              rw [e1, e2]
              exact ⟨gw, (by rw [own_b0 (fun q => q (own_eqn li435 mi435))]; rfl), N493, ((Keep.refl h0 [ax, wb]).wr W493 (Or.inl (List.mem_of_getElem? (i := 0) rfl))), f496, fw493, f497, (by rw [← own_d0]; exact f498), f499, f500, own_ct0 zi435 (own_le3 li435 hn3)⟩
          · have G501 : Go p e below A0 (T310.setTop (mkF m 89 #[.val (.ref ax), .val (.ref tx), .val (.int nn), .val (.int ((ff + (1 : Int32)) + (1 : Int32))), .val (.int (tt ((ff + (1 : Int32))).toNatClampNeg)), .unset, .unset, .unset, .unset, .unset] [(.int ((ff + (1 : Int32)) + (1 : Int32))), (.ref ax)])) := fun tq kq => G430 tq (by
              refine XS.icmpYes X310.here hx rfl (pc0 := 17) (pc' := 87) rfl (hb hby d6_17) rfl (flt hc431).2.1 (by decide) (by decide) ?_
              show Steps p.tables e below (T310.setTop (mkF m 87 #[.val (.ref ax), .val (.ref tx), .val (.int nn), .val (.int ((ff + (1 : Int32)) + (1 : Int32))), .val (.int (tt ((ff + (1 : Int32))).toNatClampNeg)), .unset, .unset, .unset, .unset, .unset] [])) _
              refine XS.aloadN X310.here hx rfl (hb hby d6_87) rfl rfl ?_
              show Steps p.tables e below (T310.setTop (mkF m 88 #[.val (.ref ax), .val (.ref tx), .val (.int nn), .val (.int ((ff + (1 : Int32)) + (1 : Int32))), .val (.int (tt ((ff + (1 : Int32))).toNatClampNeg)), .unset, .unset, .unset, .unset, .unset] [(.ref ax)])) _
              refine XS.iloadN X310.here hx rfl (hb hby d6_88) rfl ?_
              show Steps p.tables e below (T310.setTop (mkF m 89 #[.val (.ref ax), .val (.ref tx), .val (.int nn), .val (.int ((ff + (1 : Int32)) + (1 : Int32))), .val (.int (tt ((ff + (1 : Int32))).toNatClampNeg)), .unset, .unset, .unset, .unset, .unset] [(.int ((ff + (1 : Int32)) + (1 : Int32))), (.ref ax)])) _
              exact kq)
            obtain ⟨T502, h502, X502, e502, W502, st502⟩ := putF X310 hx hZ hown (host := "") (Or.inl (hw _ (List.mem_of_getElem? (i := 27) rfl))) Via.refl e310 F_at E (Or.inl (hw _ (List.mem_of_getElem? (i := 28) rfl))) (hw _ (List.mem_of_getElem? (i := 9) rfl)) (ty := .int) (by decide) rfl rfl (g := (mkF m 89 #[.val (.ref ax), .val (.ref tx), .val (.int nn), .val (.int ((ff + (1 : Int32)) + (1 : Int32))), .val (.int (tt ((ff + (1 : Int32))).toNatClampNeg)), .unset, .unset, .unset, .unset, .unset] [(.int ((ff + (1 : Int32)) + (1 : Int32))), (.ref ax)])) rfl rfl (hb hby d6_89)
            have N502 := Fr.snoc X502 N0 gax
            have fw502 := F_at.same W502
            have G503 : Go p e below A0 (T502.setTop (mkF m 92 #[.val (.ref ax), .val (.ref tx), .val (.int nn), .val (.int ((ff + (1 : Int32)) + (1 : Int32))), .val (.int (tt ((ff + (1 : Int32))).toNatClampNeg)), .unset, .unset, .unset, .unset, .unset] [])) := fun tq kq => G501 tq (st502 _ kq)
            have G504 : Go p e below A0 (T502.setTop (mkF m 98 #[.val (.ref ax), .val (.ref tx), .val (.int nn), .val (.int ((ff + (1 : Int32)) + (1 : Int32))), .val (.int (tt ((ff + (1 : Int32))).toNatClampNeg)), .unset, .unset, .unset, .unset, .unset] [(.int (0 : Int32))])) := fun tq kq => G503 tq (by
              refine XS.iloadN X502.here hx rfl (hb hby d6_92) rfl ?_
              show Steps p.tables e below (T502.setTop (mkF m 93 #[.val (.ref ax), .val (.ref tx), .val (.int nn), .val (.int ((ff + (1 : Int32)) + (1 : Int32))), .val (.int (tt ((ff + (1 : Int32))).toNatClampNeg)), .unset, .unset, .unset, .unset, .unset] [(.int ((ff + (1 : Int32)) + (1 : Int32)))])) _
              refine XS.iloadN X502.here hx rfl (hb hby d6_93) rfl ?_
              show Steps p.tables e below (T502.setTop (mkF m 94 #[.val (.ref ax), .val (.ref tx), .val (.int nn), .val (.int ((ff + (1 : Int32)) + (1 : Int32))), .val (.int (tt ((ff + (1 : Int32))).toNatClampNeg)), .unset, .unset, .unset, .unset, .unset] [(.int nn), (.int ((ff + (1 : Int32)) + (1 : Int32)))])) _
              refine XS.icmpNo X502.here hx rfl (hb hby d6_94) rfl (teq (own_eqn li308 hc431)).2 ?_
              show Steps p.tables e below (T502.setTop (mkF m 97 #[.val (.ref ax), .val (.ref tx), .val (.int nn), .val (.int ((ff + (1 : Int32)) + (1 : Int32))), .val (.int (tt ((ff + (1 : Int32))).toNatClampNeg)), .unset, .unset, .unset, .unset, .unset] [])) _
              refine XS.iconst X502.here hx rfl (hb hby d6_97) ?_
              show Steps p.tables e below (T502.setTop (mkF m 98 #[.val (.ref ax), .val (.ref tx), .val (.int nn), .val (.int ((ff + (1 : Int32)) + (1 : Int32))), .val (.int (tt ((ff + (1 : Int32))).toNatClampNeg)), .unset, .unset, .unset, .unset, .unset] [(.int (0 : Int32))])) _
              exact kq)
            have f505 := (F_text.other W502 (Or.inr (slot_ne (Or.inl (hw _ (List.mem_of_getElem? (i := 26) rfl))) (Or.inl (hw _ (List.mem_of_getElem? (i := 28) rfl))) (by decide) (t := (.array .char)) (t' := .int) (by decide) (by decide))))
            have f506 := (F_to.other W502 (Or.inr (slot_ne (Or.inl (hw _ (List.mem_of_getElem? (i := 30) rfl))) (Or.inl (hw _ (List.mem_of_getElem? (i := 28) rfl))) (by decide) (t := .int) (t' := .int) (by decide) (by decide))))
            have f507 := (F_length.other W502 (Or.inr (slot_ne (Or.inl (hw _ (List.mem_of_getElem? (i := 32) rfl))) (Or.inl (hw _ (List.mem_of_getElem? (i := 28) rfl))) (by decide) (t := .int) (t' := .int) (by decide) (by decide))))
            have f508 := (F_word.other W502 (Or.inr (slot_ne (Or.inl (hw _ (List.mem_of_getElem? (i := 19) rfl))) (Or.inl (hw _ (List.mem_of_getElem? (i := 28) rfl))) (by decide) (t := (.array .byte)) (t' := .int) (by decide) (by decide))))
            have f509 := (Aw.other W502 (Ne.symm haw))
            have e1 : sv = ((ff + (1 : Int32)) + (1 : Int32)) := by rw [hS]; simp only [own_b, own_st, hc112, hc124, hc304, hc316, hc431, not_true_eq_false, not_false_eq_true, if_true, if_false, or_true, true_or, or_false, false_or, and_true, true_and, and_false, false_and, and_self, or_self]
            have e2 : ev = ((ff + (1 : Int32)) + (1 : Int32)) := by rw [hE, e1]; simp only [own_b, own_en, hc112, hc124, hc304, hc316, hc431, not_true_eq_false, not_false_eq_true, if_true, if_false, or_true, true_or, or_false, false_or, and_true, true_and, and_false, false_and, and_self, or_self]
            obtain ⟨fs, hr, hrun, hended, hW, hsame⟩ := X502.leave (v := some (.int (nar .boolean (0 : Int32)))) (fun h => by rw [Bd.returns] at h; cases h)
            refine ⟨_, _, (by rw [← hA0]; exact G504 _ (retN X502 hx (t := .boolean) Bd.returns (by simp) (hb hby d6_98) hr)), hrun, hended, _, _, rfl, ?_, ⟨_, rfl⟩, hW, hsame.mono (by decide) (by decide)⟩
            show Qnx Z ax tx wb tt nn sv ev kw h0 n0 _ T502.heap _
            rw [e502]
            rw [e1, e2]
            exact ⟨gw, (by rw [own_b0 (fun q => q (own_eqn li308 hc431))]; rfl), N502, ((Keep.refl h0 [ax, wb]).wr W502 (Or.inl (List.mem_of_getElem? (i := 0) rfl))), f505, fw502, f506, (by rw [← own_d0]; exact f507), f508, f509, own_ct0 zi308 (own_le3 li308 hn3)⟩
      · have G510 : Go p e below A0 (T118.setTop (mkF m 89 #[.val (.ref ax), .val (.ref tx), .val (.int nn), .val (.int (ff + (1 : Int32))), .val (.int (tt (ff).toNatClampNeg)), .unset, .unset, .unset, .unset, .unset] [(.int (ff + (1 : Int32))), (.ref ax)])) := fun tq kq => G303 tq (by
          refine XS.icmpYes X118.here hx rfl (pc0 := 17) (pc' := 87) rfl (hb hby d6_17) rfl (flt hc304).2.1 (by decide) (by decide) ?_
          show Steps p.tables e below (T118.setTop (mkF m 87 #[.val (.ref ax), .val (.ref tx), .val (.int nn), .val (.int (ff + (1 : Int32))), .val (.int (tt (ff).toNatClampNeg)), .unset, .unset, .unset, .unset, .unset] [])) _
          refine XS.aloadN X118.here hx rfl (hb hby d6_87) rfl rfl ?_
          show Steps p.tables e below (T118.setTop (mkF m 88 #[.val (.ref ax), .val (.ref tx), .val (.int nn), .val (.int (ff + (1 : Int32))), .val (.int (tt (ff).toNatClampNeg)), .unset, .unset, .unset, .unset, .unset] [(.ref ax)])) _
          refine XS.iloadN X118.here hx rfl (hb hby d6_88) rfl ?_
          show Steps p.tables e below (T118.setTop (mkF m 89 #[.val (.ref ax), .val (.ref tx), .val (.int nn), .val (.int (ff + (1 : Int32))), .val (.int (tt (ff).toNatClampNeg)), .unset, .unset, .unset, .unset, .unset] [(.int (ff + (1 : Int32))), (.ref ax)])) _
          exact kq)
        obtain ⟨T511, h511, X511, e511, W511, st511⟩ := putF X118 hx hZ hown (host := "") (Or.inl (hw _ (List.mem_of_getElem? (i := 27) rfl))) Via.refl e118 F_at E (Or.inl (hw _ (List.mem_of_getElem? (i := 28) rfl))) (hw _ (List.mem_of_getElem? (i := 9) rfl)) (ty := .int) (by decide) rfl rfl (g := (mkF m 89 #[.val (.ref ax), .val (.ref tx), .val (.int nn), .val (.int (ff + (1 : Int32))), .val (.int (tt (ff).toNatClampNeg)), .unset, .unset, .unset, .unset, .unset] [(.int (ff + (1 : Int32))), (.ref ax)])) rfl rfl (hb hby d6_89)
        have N511 := Fr.snoc X511 N0 gax
        have fw511 := F_at.same W511
        have G512 : Go p e below A0 (T511.setTop (mkF m 92 #[.val (.ref ax), .val (.ref tx), .val (.int nn), .val (.int (ff + (1 : Int32))), .val (.int (tt (ff).toNatClampNeg)), .unset, .unset, .unset, .unset, .unset] [])) := fun tq kq => G510 tq (st511 _ kq)
        have G513 : Go p e below A0 (T511.setTop (mkF m 98 #[.val (.ref ax), .val (.ref tx), .val (.int nn), .val (.int (ff + (1 : Int32))), .val (.int (tt (ff).toNatClampNeg)), .unset, .unset, .unset, .unset, .unset] [(.int (0 : Int32))])) := fun tq kq => G512 tq (by
          refine XS.iloadN X511.here hx rfl (hb hby d6_92) rfl ?_
          show Steps p.tables e below (T511.setTop (mkF m 93 #[.val (.ref ax), .val (.ref tx), .val (.int nn), .val (.int (ff + (1 : Int32))), .val (.int (tt (ff).toNatClampNeg)), .unset, .unset, .unset, .unset, .unset] [(.int (ff + (1 : Int32)))])) _
          refine XS.iloadN X511.here hx rfl (hb hby d6_93) rfl ?_
          show Steps p.tables e below (T511.setTop (mkF m 94 #[.val (.ref ax), .val (.ref tx), .val (.int nn), .val (.int (ff + (1 : Int32))), .val (.int (tt (ff).toNatClampNeg)), .unset, .unset, .unset, .unset, .unset] [(.int nn), (.int (ff + (1 : Int32)))])) _
          refine XS.icmpNo X511.here hx rfl (hb hby d6_94) rfl (teq (own_eqn li116 hc304)).2 ?_
          show Steps p.tables e below (T511.setTop (mkF m 97 #[.val (.ref ax), .val (.ref tx), .val (.int nn), .val (.int (ff + (1 : Int32))), .val (.int (tt (ff).toNatClampNeg)), .unset, .unset, .unset, .unset, .unset] [])) _
          refine XS.iconst X511.here hx rfl (hb hby d6_97) ?_
          show Steps p.tables e below (T511.setTop (mkF m 98 #[.val (.ref ax), .val (.ref tx), .val (.int nn), .val (.int (ff + (1 : Int32))), .val (.int (tt (ff).toNatClampNeg)), .unset, .unset, .unset, .unset, .unset] [(.int (0 : Int32))])) _
          exact kq)
        have f514 := (F_text.other W511 (Or.inr (slot_ne (Or.inl (hw _ (List.mem_of_getElem? (i := 26) rfl))) (Or.inl (hw _ (List.mem_of_getElem? (i := 28) rfl))) (by decide) (t := (.array .char)) (t' := .int) (by decide) (by decide))))
        have f515 := (F_to.other W511 (Or.inr (slot_ne (Or.inl (hw _ (List.mem_of_getElem? (i := 30) rfl))) (Or.inl (hw _ (List.mem_of_getElem? (i := 28) rfl))) (by decide) (t := .int) (t' := .int) (by decide) (by decide))))
        have f516 := (F_length.other W511 (Or.inr (slot_ne (Or.inl (hw _ (List.mem_of_getElem? (i := 32) rfl))) (Or.inl (hw _ (List.mem_of_getElem? (i := 28) rfl))) (by decide) (t := .int) (t' := .int) (by decide) (by decide))))
        have f517 := (F_word.other W511 (Or.inr (slot_ne (Or.inl (hw _ (List.mem_of_getElem? (i := 19) rfl))) (Or.inl (hw _ (List.mem_of_getElem? (i := 28) rfl))) (by decide) (t := (.array .byte)) (t' := .int) (by decide) (by decide))))
        have f518 := (Aw.other W511 (Ne.symm haw))
        have e1 : sv = (ff + (1 : Int32)) := by rw [hS]; simp only [own_b, own_st, hc112, hc124, hc304, not_true_eq_false, not_false_eq_true, if_true, if_false, or_true, true_or, or_false, false_or, and_true, true_and, and_false, false_and, and_self, or_self]
        have e2 : ev = (ff + (1 : Int32)) := by rw [hE, e1]; simp only [own_b, own_en, hc112, hc124, hc304, not_true_eq_false, not_false_eq_true, if_true, if_false, or_true, true_or, or_false, false_or, and_true, true_and, and_false, false_and, and_self, or_self]
        obtain ⟨fs, hr, hrun, hended, hW, hsame⟩ := X511.leave (v := some (.int (nar .boolean (0 : Int32)))) (fun h => by rw [Bd.returns] at h; cases h)
        refine ⟨_, _, (by rw [← hA0]; exact G513 _ (retN X511 hx (t := .boolean) Bd.returns (by simp) (hb hby d6_98) hr)), hrun, hended, _, _, rfl, ?_, ⟨_, rfl⟩, hW, hsame.mono (by decide) (by decide)⟩
        show Qnx Z ax tx wb tt nn sv ev kw h0 n0 _ T511.heap _
        rw [e511]
        rw [e1, e2]
        exact ⟨gw, (by rw [own_b0 (fun q => q (own_eqn li116 hc304))]; rfl), N511, ((Keep.refl h0 [ax, wb]).wr W511 (Or.inl (List.mem_of_getElem? (i := 0) rfl))), f514, fw511, f515, (by rw [← own_d0]; exact f516), f517, f518, own_ct0 zi116 (own_le3 li116 hn3)⟩
  · have G519 : Go p e below A0 (T109.setTop (mkF m 89 #[.val (.ref ax), .val (.ref tx), .val (.int nn), .val (.int ff), .unset, .unset, .unset, .unset, .unset, .unset] [(.int ff), (.ref ax)])) := fun tq kq => G111 tq (by
      refine XS.icmpYes X109.here hx rfl (pc0 := 17) (pc' := 87) rfl (hb hby d6_17) rfl (flt hc112).2.1 (by decide) (by decide) ?_
      show Steps p.tables e below (T109.setTop (mkF m 87 #[.val (.ref ax), .val (.ref tx), .val (.int nn), .val (.int ff), .unset, .unset, .unset, .unset, .unset, .unset] [])) _
      refine XS.aloadN X109.here hx rfl (hb hby d6_87) rfl rfl ?_
      show Steps p.tables e below (T109.setTop (mkF m 88 #[.val (.ref ax), .val (.ref tx), .val (.int nn), .val (.int ff), .unset, .unset, .unset, .unset, .unset, .unset] [(.ref ax)])) _
      refine XS.iloadN X109.here hx rfl (hb hby d6_88) rfl ?_
      show Steps p.tables e below (T109.setTop (mkF m 89 #[.val (.ref ax), .val (.ref tx), .val (.int nn), .val (.int ff), .unset, .unset, .unset, .unset, .unset, .unset] [(.int ff), (.ref ax)])) _
      exact kq)
    obtain ⟨T520, h520, X520, e520, W520, st520⟩ := putF X109 hx hZ hown (host := "") (Or.inl (hw _ (List.mem_of_getElem? (i := 27) rfl))) Via.refl e109 F_at E (Or.inl (hw _ (List.mem_of_getElem? (i := 28) rfl))) (hw _ (List.mem_of_getElem? (i := 9) rfl)) (ty := .int) (by decide) rfl rfl (g := (mkF m 89 #[.val (.ref ax), .val (.ref tx), .val (.int nn), .val (.int ff), .unset, .unset, .unset, .unset, .unset, .unset] [(.int ff), (.ref ax)])) rfl rfl (hb hby d6_89)
    have N520 := Fr.snoc X520 N0 gax
    have fw520 := F_at.same W520
    have G521 : Go p e below A0 (T520.setTop (mkF m 92 #[.val (.ref ax), .val (.ref tx), .val (.int nn), .val (.int ff), .unset, .unset, .unset, .unset, .unset, .unset] [])) := fun tq kq => G519 tq (st520 _ kq)
    have G522 : Go p e below A0 (T520.setTop (mkF m 98 #[.val (.ref ax), .val (.ref tx), .val (.int nn), .val (.int ff), .unset, .unset, .unset, .unset, .unset, .unset] [(.int (0 : Int32))])) := fun tq kq => G521 tq (by
      refine XS.iloadN X520.here hx rfl (hb hby d6_92) rfl ?_
      show Steps p.tables e below (T520.setTop (mkF m 93 #[.val (.ref ax), .val (.ref tx), .val (.int nn), .val (.int ff), .unset, .unset, .unset, .unset, .unset, .unset] [(.int ff)])) _
      refine XS.iloadN X520.here hx rfl (hb hby d6_93) rfl ?_
      show Steps p.tables e below (T520.setTop (mkF m 94 #[.val (.ref ax), .val (.ref tx), .val (.int nn), .val (.int ff), .unset, .unset, .unset, .unset, .unset, .unset] [(.int nn), (.int ff)])) _
      refine XS.icmpNo X520.here hx rfl (hb hby d6_94) rfl (teq (own_eqn hfn hc112)).2 ?_
      show Steps p.tables e below (T520.setTop (mkF m 97 #[.val (.ref ax), .val (.ref tx), .val (.int nn), .val (.int ff), .unset, .unset, .unset, .unset, .unset, .unset] [])) _
      refine XS.iconst X520.here hx rfl (hb hby d6_97) ?_
      show Steps p.tables e below (T520.setTop (mkF m 98 #[.val (.ref ax), .val (.ref tx), .val (.int nn), .val (.int ff), .unset, .unset, .unset, .unset, .unset, .unset] [(.int (0 : Int32))])) _
      exact kq)
    have f523 := (F_text.other W520 (Or.inr (slot_ne (Or.inl (hw _ (List.mem_of_getElem? (i := 26) rfl))) (Or.inl (hw _ (List.mem_of_getElem? (i := 28) rfl))) (by decide) (t := (.array .char)) (t' := .int) (by decide) (by decide))))
    have f524 := (F_to.other W520 (Or.inr (slot_ne (Or.inl (hw _ (List.mem_of_getElem? (i := 30) rfl))) (Or.inl (hw _ (List.mem_of_getElem? (i := 28) rfl))) (by decide) (t := .int) (t' := .int) (by decide) (by decide))))
    have f525 := (F_length.other W520 (Or.inr (slot_ne (Or.inl (hw _ (List.mem_of_getElem? (i := 32) rfl))) (Or.inl (hw _ (List.mem_of_getElem? (i := 28) rfl))) (by decide) (t := .int) (t' := .int) (by decide) (by decide))))
    have f526 := (F_word.other W520 (Or.inr (slot_ne (Or.inl (hw _ (List.mem_of_getElem? (i := 19) rfl))) (Or.inl (hw _ (List.mem_of_getElem? (i := 28) rfl))) (by decide) (t := (.array .byte)) (t' := .int) (by decide) (by decide))))
    have f527 := (Aw.other W520 (Ne.symm haw))
    have e1 : sv = ff := by rw [hS]; simp only [own_b, own_st, hc112, not_true_eq_false, not_false_eq_true, if_true, if_false, or_true, true_or, or_false, false_or, and_true, true_and, and_false, false_and, and_self, or_self]
    have e2 : ev = ff := by rw [hE, e1]; simp only [own_b, own_en, hc112, not_true_eq_false, not_false_eq_true, if_true, if_false, or_true, true_or, or_false, false_or, and_true, true_and, and_false, false_and, and_self, or_self]
    obtain ⟨fs, hr, hrun, hended, hW, hsame⟩ := X520.leave (v := some (.int (nar .boolean (0 : Int32)))) (fun h => by rw [Bd.returns] at h; cases h)
    refine ⟨_, _, (by rw [← hA0]; exact G522 _ (retN X520 hx (t := .boolean) Bd.returns (by simp) (hb hby d6_98) hr)), hrun, hended, _, _, rfl, ?_, ⟨_, rfl⟩, hW, hsame.mono (by decide) (by decide)⟩
    show Qnx Z ax tx wb tt nn sv ev kw h0 n0 _ T520.heap _
    rw [e520]
    rw [e1, e2]
    exact ⟨gw, (by rw [own_b0 (fun q => q (own_eqn hfn hc112))]; rfl), N520, ((Keep.refl h0 [ax, wb]).wr W520 (Or.inl (List.mem_of_getElem? (i := 0) rfl))), f523, fw520, f524, (by rw [← own_d0]; exact f525), f526, f527, own_ct0 hz (own_le3 hfn hn3)⟩
set_option maxRecDepth 65536 in
set_option maxHeartbeats 40000000 in
theorem rmSM0 (l : Launch) (Z : State) (a0 : Array Value) (hw : ∀ d ∈ tables_1, d.before a0 Z = true) (ws : List Jvm.Cond) (bs tx : Addr) (tt gw : Nat → Int32) (sx ey zt : Int32) (kw kt : ClassId) (h0 : Heap) (n0 : Nat) (Z0 : n0 ≤ h0.size) (Ab : Af Z h0 bs kw .byte (64 : Int32) (fun i => .int (gw i))) (At : Af Z h0 tx kt .char zt (fun i => .int (tt i))) (hct : sx < ey → gw 0 = own_low (tt (sx).toNatClampNeg) ∧ own_W (tt (sx).toNatClampNeg)) (hidx : sx < ey → ¬ sx < 0 ∧ sx < zt) :
    MetFree l (⟨"com/example/subtree/subtree/index/PlainWordsResetPinLaw", "same", "([B[CIII)Z"⟩ : MethodName) (head1 (Jvm.Cond.code (⟨"com/example/subtree/subtree/index/PlainWordsResetPinLaw", "same", "([B[CIII)Z"⟩ : MethodName) method_5_code 5 (some .boolean) :: ws) ({ frames := 1, cells := 0, slots := 0, locals := 13 } : Room)) (fun aa UU => aa = #[(.ref bs), (.ref tx), (.int sx), (.int (0 : Int32)), (.int ey)] ∧ Z.Warmed39 UU.vm ∧ UU.heap = h0) (fun _ _ _ _ _ => True) (fun _ UU oo U' => ∃ v L, oo = .returned v ∧ Qr (.int 1) h0 n0 v U'.heap L ∧ FrameEnd UU oo U' L ({ frames := 1, cells := 0, slots := 0, locals := 13 } : Room).cells ({ frames := 1, cells := 0, slots := 0, locals := 13 } : Room).slots) := by
  refine MetFree.of_bodySF (plainFor_of_name pn_0) hisR ?_
  intro p e s m args below meth c s₁ Bd hml0 hP hK
  obtain ⟨rfl, hZ, hh⟩ := hP
  have hx := Bd.exec
  have hby := Bd.bytes
  have hml : c.maxLocals = 5 := hml0
  have hown : s.vm.findClass "com/example/subtree/subtree/index/PlainWordsResetPinLaw" = some m.cls := findClass_of_methodNamed Bd.named
  have hnm := (name_of_methodNamed Bd.named Bd.method).1
  have X0 : Stand p l e ({ frames := 1, cells := 0, slots := 0, locals := 13 } : Room) s m #[(.ref bs), (.ref tx), (.int sx), (.int (0 : Int32)), (.int ey)] below meth c s₁ [] 0 0 := Stand.of_body Bd
  have e0 : s₁.heap = h0 := by rw [← hh, Bd.state]; rfl
  have N0 := Fr.nil n0
  obtain ⟨A0, hA0⟩ : ∃ A, A = s₁.setTop (entryFrame m #[(.ref bs), (.ref tx), (.int sx), (.int (0 : Int32)), (.int ey)] 5) := ⟨_, rfl⟩
  have G0 : Go p e below A0 (s₁.setTop (mkF m 0 #[.val (.ref bs), .val (.ref tx), .val (.int sx), .val (.int (0 : Int32)), .val (.int ey)] [])) := fun tq kq => by rw [hA0]; exact castTop (ef_rmSM0 m bs tx sx (0 : Int32) ey) kq
  have G528 : Go p e below A0 (s₁.setTop (mkF m 5 #[.val (.ref bs), .val (.ref tx), .val (.int sx), .val (.int (0 : Int32)), .val (.int ey)] [(.int ey), (.int sx)])) := fun tq kq => G0 tq (by
    refine XS.iloadN X0.here hx rfl (hb hby d10_0) rfl ?_
    show Steps p.tables e below (s₁.setTop (mkF m 1 #[.val (.ref bs), .val (.ref tx), .val (.int sx), .val (.int (0 : Int32)), .val (.int ey)] [(.int sx)])) _
    refine XS.iloadN X0.here hx rfl (hb hby d10_1) rfl ?_
    show Steps p.tables e below (s₁.setTop (mkF m 2 #[.val (.ref bs), .val (.ref tx), .val (.int sx), .val (.int (0 : Int32)), .val (.int ey)] [(.int (0 : Int32)), (.int sx)])) _
    refine XS.iadd X0.here hx rfl (hb hby d10_2) rfl ?_
    show Steps p.tables e below (s₁.setTop (mkF m 3 #[.val (.ref bs), .val (.ref tx), .val (.int sx), .val (.int (0 : Int32)), .val (.int ey)] [(.int (sx + (0 : Int32)))])) _
    rw [show (sx + (0 : Int32)) = sx from own_add0 sx]
    show Steps p.tables e below (s₁.setTop (mkF m 3 #[.val (.ref bs), .val (.ref tx), .val (.int sx), .val (.int (0 : Int32)), .val (.int ey)] [(.int sx)])) _
    refine XS.iload X0.here hx rfl (hb hby d10_3) rfl ?_
    show Steps p.tables e below (s₁.setTop (mkF m 5 #[.val (.ref bs), .val (.ref tx), .val (.int sx), .val (.int (0 : Int32)), .val (.int ey)] [(.int ey), (.int sx)])) _
    exact kq)
  by_cases hc529 : sx < ey
  · have G530 : Go p e below A0 (s₁.setTop (mkF m 10 #[.val (.ref bs), .val (.ref tx), .val (.int sx), .val (.int (0 : Int32)), .val (.int ey)] [])) := fun tq kq => G528 tq (by
      refine XS.icmpYes X0.here hx rfl (pc0 := 5) (pc' := 10) rfl (hb hby d10_5) rfl (tlt hc529).1 (by decide) (by decide) ?_
      show Steps p.tables e below (s₁.setTop (mkF m 10 #[.val (.ref bs), .val (.ref tx), .val (.int sx), .val (.int (0 : Int32)), .val (.int ey)] [])) _
      exact kq)
    have hyes := hc529
    have G531 : Go p e below A0 (s₁.setTop (mkF m 12 #[.val (.ref bs), .val (.ref tx), .val (.int sx), .val (.int (0 : Int32)), .val (.int ey)] [(.int (0 : Int32)), (.ref bs)])) := fun tq kq => G530 tq (by
      refine XS.aloadN X0.here hx rfl (hb hby d10_10) rfl rfl ?_
      show Steps p.tables e below (s₁.setTop (mkF m 11 #[.val (.ref bs), .val (.ref tx), .val (.int sx), .val (.int (0 : Int32)), .val (.int ey)] [(.ref bs)])) _
      refine XS.iloadN X0.here hx rfl (hb hby d10_11) rfl ?_
      show Steps p.tables e below (s₁.setTop (mkF m 12 #[.val (.ref bs), .val (.ref tx), .val (.int sx), .val (.int (0 : Int32)), .val (.int ey)] [(.int (0 : Int32)), (.ref bs)])) _
      exact kq)
    obtain ⟨cl532, Ar532, q532, S532, M532, H532⟩ := id Ab
    have hi533 : ¬ ((0 : Int32) < 0 ∨ cl532.slots.size ≤ ((0 : Int32)).toNatClampNeg) := (inb_of S532 ⟨by decide, by decide⟩)
    have G534 : Go p e below A0 (s₁.setTop (mkF m 17 #[.val (.ref bs), .val (.ref tx), .val (.int sx), .val (.int (0 : Int32)), .val (.int ey)] [(.int sx), (.ref tx), (.int (own_low (tt (sx).toNatClampNeg)))])) := fun tq kq => G531 tq (by
      refine X0.baloadBytes hx (j := (0 : Int32)) (v := (.int (own_low (tt (sx).toNatClampNeg)))) (by rw [e0]; exact Ar532.1) (State.isArrayOf_alike hZ.alike Ar532.2.1) Ar532.2.2 hi533 ((H532 _ (S532 ▸ Nat.lt_of_not_le fun y => hi533 (Or.inr y))).trans (congrArg some (congrArg Value.int (hct hyes).1))) (g := (mkF m 12 #[.val (.ref bs), .val (.ref tx), .val (.int sx), .val (.int (0 : Int32)), .val (.int ey)] [(.int (0 : Int32)), (.ref bs)])) rfl rfl (hb hby d10_12) _ ?_
      show Steps p.tables e below (s₁.setTop (mkF m 13 #[.val (.ref bs), .val (.ref tx), .val (.int sx), .val (.int (0 : Int32)), .val (.int ey)] [(.int (own_low (tt (sx).toNatClampNeg)))])) _
      refine XS.aloadN X0.here hx rfl (hb hby d10_13) rfl rfl ?_
      show Steps p.tables e below (s₁.setTop (mkF m 14 #[.val (.ref bs), .val (.ref tx), .val (.int sx), .val (.int (0 : Int32)), .val (.int ey)] [(.ref tx), (.int (own_low (tt (sx).toNatClampNeg)))])) _
      refine XS.iloadN X0.here hx rfl (hb hby d10_14) rfl ?_
      show Steps p.tables e below (s₁.setTop (mkF m 15 #[.val (.ref bs), .val (.ref tx), .val (.int sx), .val (.int (0 : Int32)), .val (.int ey)] [(.int sx), (.ref tx), (.int (own_low (tt (sx).toNatClampNeg)))])) _
      refine XS.iloadN X0.here hx rfl (hb hby d10_15) rfl ?_
      show Steps p.tables e below (s₁.setTop (mkF m 16 #[.val (.ref bs), .val (.ref tx), .val (.int sx), .val (.int (0 : Int32)), .val (.int ey)] [(.int (0 : Int32)), (.int sx), (.ref tx), (.int (own_low (tt (sx).toNatClampNeg)))])) _
      refine XS.iadd X0.here hx rfl (hb hby d10_16) rfl ?_
      show Steps p.tables e below (s₁.setTop (mkF m 17 #[.val (.ref bs), .val (.ref tx), .val (.int sx), .val (.int (0 : Int32)), .val (.int ey)] [(.int (sx + (0 : Int32))), (.ref tx), (.int (own_low (tt (sx).toNatClampNeg)))])) _
      rw [show (sx + (0 : Int32)) = sx from own_add0 sx]
      show Steps p.tables e below (s₁.setTop (mkF m 17 #[.val (.ref bs), .val (.ref tx), .val (.int sx), .val (.int (0 : Int32)), .val (.int ey)] [(.int sx), (.ref tx), (.int (own_low (tt (sx).toNatClampNeg)))])) _
      exact kq)
    obtain ⟨cl535, Ar535, q535, S535, M535, H535⟩ := id At
    have hi536 : ¬ (sx < 0 ∨ cl535.slots.size ≤ (sx).toNatClampNeg) := (inb_of S535 (hidx hyes))
    have G537 : Go p e below A0 (s₁.setTop (mkF m 18 #[.val (.ref bs), .val (.ref tx), .val (.int sx), .val (.int (0 : Int32)), .val (.int ey)] [(.int (tt (sx).toNatClampNeg)), (.int (own_low (tt (sx).toNatClampNeg)))])) := fun tq kq => G534 tq (by
      refine X0.caload hx (j := sx) (v := (.int (tt (sx).toNatClampNeg))) (by rw [e0]; exact Ar535.1) (State.isArrayOf_alike hZ.alike Ar535.2.1) Ar535.2.2 hi536 ((H535 _ (S535 ▸ Nat.lt_of_not_le fun y => hi536 (Or.inr y))).trans (congrArg some rfl)) (g := (mkF m 17 #[.val (.ref bs), .val (.ref tx), .val (.int sx), .val (.int (0 : Int32)), .val (.int ey)] [(.int sx), (.ref tx), (.int (own_low (tt (sx).toNatClampNeg)))])) rfl rfl (hb hby d10_17) _ ?_
      show Steps p.tables e below (s₁.setTop (mkF m 18 #[.val (.ref bs), .val (.ref tx), .val (.int sx), .val (.int (0 : Int32)), .val (.int ey)] [(.int (tt (sx).toNatClampNeg)), (.int (own_low (tt (sx).toNatClampNeg)))])) _
      exact kq)
    obtain ⟨_, _, ⟨T538, L538, k538, n538⟩, -, X538, ⟨Lc538, hQ538, l538, y538, z538⟩, st538⟩ := Jvm.LawKit.callS X0 hx (y := (⟨"com/example/subtree/subtree/index/PlainWordsResetPinLaw", "lower", "(C)I"⟩ : MethodName)) hown (mvT hZ (hw _ (List.mem_of_getElem? (i := 57) rfl))) (mvT hZ (hw _ (List.mem_of_getElem? (i := 58) rfl))) (mvT hZ (hw _ (List.mem_of_getElem? (i := 47) rfl))) (mvT hZ (hw _ (List.mem_of_getElem? (i := 59) rfl))) (by decide) (backOf (W := 1) (rmLO l Z a0 hw [] (tt (sx).toNatClampNeg) h0 n0 Z0) hZ (hw _ (List.mem_of_getElem? (i := 59) rfl)) (hw _ (List.mem_of_getElem? (i := 47) rfl)) (by decide) (by decide)) (g := (mkF m 18 #[.val (.ref bs), .val (.ref tx), .val (.int sx), .val (.int (0 : Int32)), .val (.int ey)] [(.int (tt (sx).toNatClampNeg)), (.int (own_low (tt (sx).toNatClampNeg)))])) rfl (by rw [hml]; rfl) (argsL := [(.int (tt (sx).toNatClampNeg))]) (rest := [(.int (own_low (tt (sx).toNatClampNeg)))]) (lenOf pd_0 rfl) rfl (by show 2 * 0 + _ ≤ _; exact Nat.le_of_eq rfl) (hb hby d10_18) (fun _ _ => ⟨rfl, e0, (by decide : 0 + 0 ≤ _), (by decide : 0 + 0 ≤ _)⟩)
    dsimp only [Pt.U, Pt.locs, Pt.cells, Pt.slots] at X538 l538 y538 z538 st538 hQ538
    obtain rfl : k538 = 0 := y538
    obtain rfl : n538 = 0 := z538
    obtain ⟨rfl, N538q, e538⟩ := hQ538
    have N538 : Fr n0 L538 := by rw [l538]; exact Fr.app N0 N538q
    have G539 : Go p e below A0 (T538.setTop (mkF m 21 #[.val (.ref bs), .val (.ref tx), .val (.int sx), .val (.int (0 : Int32)), .val (.int ey)] [(.int (own_low (tt (sx).toNatClampNeg))), (.int (own_low (tt (sx).toNatClampNeg)))])) := fun tq kq => G537 tq (st538 _ kq)
    have G540 : Go p e below A0 (T538.setTop (mkF m 30 #[.val (.ref bs), .val (.ref tx), .val (.int sx), .val (.int (0 : Int32)), .val (.int ey)] [(.int (1 : Int32))])) := fun tq kq => G539 tq (by
      refine XS.i2b X538.here hx rfl (hb hby d10_21) rfl ?_
      show Steps p.tables e below (T538.setTop (mkF m 22 #[.val (.ref bs), .val (.ref tx), .val (.int sx), .val (.int (0 : Int32)), .val (.int ey)] [(.int (own_low (tt (sx).toNatClampNeg)).toInt8.toInt32), (.int (own_low (tt (sx).toNatClampNeg)))])) _
      rw [show (own_low (tt (sx).toNatClampNeg)).toInt8.toInt32 = (own_low (tt (sx).toNatClampNeg)) from own_lowB (hct hyes).2]
      show Steps p.tables e below (T538.setTop (mkF m 22 #[.val (.ref bs), .val (.ref tx), .val (.int sx), .val (.int (0 : Int32)), .val (.int ey)] [(.int (own_low (tt (sx).toNatClampNeg))), (.int (own_low (tt (sx).toNatClampNeg)))])) _
      refine XS.icmpNo X538.here hx rfl (hb hby d10_22) rfl (teq (rfl : (own_low (tt (sx).toNatClampNeg)) = (own_low (tt (sx).toNatClampNeg)))).2 ?_
      show Steps p.tables e below (T538.setTop (mkF m 25 #[.val (.ref bs), .val (.ref tx), .val (.int sx), .val (.int (0 : Int32)), .val (.int ey)] [])) _
      refine XS.iconst X538.here hx rfl (hb hby d10_25) ?_
      show Steps p.tables e below (T538.setTop (mkF m 26 #[.val (.ref bs), .val (.ref tx), .val (.int sx), .val (.int (0 : Int32)), .val (.int ey)] [(.int (1 : Int32))])) _
      refine XS.goto X538.here hx rfl (pc0 := 26) (pc' := 30) rfl (hb hby d10_26) (by decide) (by decide) ?_
      show Steps p.tables e below (T538.setTop (mkF m 30 #[.val (.ref bs), .val (.ref tx), .val (.int sx), .val (.int (0 : Int32)), .val (.int ey)] [(.int (1 : Int32))])) _
      exact kq)
    obtain ⟨fs, hr, hrun, hended, hW, hsame⟩ := X538.leave (v := some (.int (nar .boolean (1 : Int32)))) (fun h => by rw [Bd.returns] at h; cases h)
    refine ⟨_, _, (by rw [← hA0]; exact G540 _ (retN X538 hx (t := .boolean) Bd.returns (by simp) (hb hby d10_30) hr)), hrun, hended, _, _, rfl, ?_, ⟨_, rfl⟩, hW, hsame.mono (by decide) (by decide)⟩
    exact ⟨rfl, N538, e538⟩
  · have G541 : Go p e below A0 (s₁.setTop (mkF m 9 #[.val (.ref bs), .val (.ref tx), .val (.int sx), .val (.int (0 : Int32)), .val (.int ey)] [(.int (1 : Int32))])) := fun tq kq => G528 tq (by
      refine XS.icmpNo X0.here hx rfl (hb hby d10_5) rfl (flt hc529).1 ?_
      show Steps p.tables e below (s₁.setTop (mkF m 8 #[.val (.ref bs), .val (.ref tx), .val (.int sx), .val (.int (0 : Int32)), .val (.int ey)] [])) _
      refine XS.iconst X0.here hx rfl (hb hby d10_8) ?_
      show Steps p.tables e below (s₁.setTop (mkF m 9 #[.val (.ref bs), .val (.ref tx), .val (.int sx), .val (.int (0 : Int32)), .val (.int ey)] [(.int (1 : Int32))])) _
      exact kq)
    obtain ⟨fs, hr, hrun, hended, hW, hsame⟩ := X0.leave (v := some (.int (nar .boolean (1 : Int32)))) (fun h => by rw [Bd.returns] at h; cases h)
    refine ⟨_, _, (by rw [← hA0]; exact G541 _ (retN X0 hx (t := .boolean) Bd.returns (by simp) (hb hby d10_9) hr)), hrun, hended, _, _, rfl, ?_, ⟨_, rfl⟩, hW, hsame.mono (by decide) (by decide)⟩
    exact ⟨rfl, N0, e0⟩
set_option maxRecDepth 65536 in
set_option maxHeartbeats 40000000 in
theorem rmSM1 (l : Launch) (Z : State) (a0 : Array Value) (hw : ∀ d ∈ tables_1, d.before a0 Z = true) (ws : List Jvm.Cond) (bs tx : Addr) (tt gw : Nat → Int32) (sx ey zt : Int32) (kw kt : ClassId) (h0 : Heap) (n0 : Nat) (Z0 : n0 ≤ h0.size) (Ab : Af Z h0 bs kw .byte (64 : Int32) (fun i => .int (gw i))) (At : Af Z h0 tx kt .char zt (fun i => .int (tt i))) (hct : (sx + (1 : Int32)) < ey → gw 1 = own_low (tt ((sx + (1 : Int32))).toNatClampNeg) ∧ own_W (tt ((sx + (1 : Int32))).toNatClampNeg)) (hidx : (sx + (1 : Int32)) < ey → ¬ (sx + (1 : Int32)) < 0 ∧ (sx + (1 : Int32)) < zt) :
    MetFree l (⟨"com/example/subtree/subtree/index/PlainWordsResetPinLaw", "same", "([B[CIII)Z"⟩ : MethodName) (head1 (Jvm.Cond.code (⟨"com/example/subtree/subtree/index/PlainWordsResetPinLaw", "same", "([B[CIII)Z"⟩ : MethodName) method_5_code 5 (some .boolean) :: ws) ({ frames := 1, cells := 0, slots := 0, locals := 13 } : Room)) (fun aa UU => aa = #[(.ref bs), (.ref tx), (.int sx), (.int (1 : Int32)), (.int ey)] ∧ Z.Warmed39 UU.vm ∧ UU.heap = h0) (fun _ _ _ _ _ => True) (fun _ UU oo U' => ∃ v L, oo = .returned v ∧ Qr (.int 1) h0 n0 v U'.heap L ∧ FrameEnd UU oo U' L ({ frames := 1, cells := 0, slots := 0, locals := 13 } : Room).cells ({ frames := 1, cells := 0, slots := 0, locals := 13 } : Room).slots) := by
  refine MetFree.of_bodySF (plainFor_of_name pn_0) hisR ?_
  intro p e s m args below meth c s₁ Bd hml0 hP hK
  obtain ⟨rfl, hZ, hh⟩ := hP
  have hx := Bd.exec
  have hby := Bd.bytes
  have hml : c.maxLocals = 5 := hml0
  have hown : s.vm.findClass "com/example/subtree/subtree/index/PlainWordsResetPinLaw" = some m.cls := findClass_of_methodNamed Bd.named
  have hnm := (name_of_methodNamed Bd.named Bd.method).1
  have X0 : Stand p l e ({ frames := 1, cells := 0, slots := 0, locals := 13 } : Room) s m #[(.ref bs), (.ref tx), (.int sx), (.int (1 : Int32)), (.int ey)] below meth c s₁ [] 0 0 := Stand.of_body Bd
  have e0 : s₁.heap = h0 := by rw [← hh, Bd.state]; rfl
  have N0 := Fr.nil n0
  obtain ⟨A0, hA0⟩ : ∃ A, A = s₁.setTop (entryFrame m #[(.ref bs), (.ref tx), (.int sx), (.int (1 : Int32)), (.int ey)] 5) := ⟨_, rfl⟩
  have G0 : Go p e below A0 (s₁.setTop (mkF m 0 #[.val (.ref bs), .val (.ref tx), .val (.int sx), .val (.int (1 : Int32)), .val (.int ey)] [])) := fun tq kq => by rw [hA0]; exact castTop (ef_rmSM1 m bs tx sx (1 : Int32) ey) kq
  have G542 : Go p e below A0 (s₁.setTop (mkF m 5 #[.val (.ref bs), .val (.ref tx), .val (.int sx), .val (.int (1 : Int32)), .val (.int ey)] [(.int ey), (.int (sx + (1 : Int32)))])) := fun tq kq => G0 tq (by
    refine XS.iloadN X0.here hx rfl (hb hby d10_0) rfl ?_
    show Steps p.tables e below (s₁.setTop (mkF m 1 #[.val (.ref bs), .val (.ref tx), .val (.int sx), .val (.int (1 : Int32)), .val (.int ey)] [(.int sx)])) _
    refine XS.iloadN X0.here hx rfl (hb hby d10_1) rfl ?_
    show Steps p.tables e below (s₁.setTop (mkF m 2 #[.val (.ref bs), .val (.ref tx), .val (.int sx), .val (.int (1 : Int32)), .val (.int ey)] [(.int (1 : Int32)), (.int sx)])) _
    refine XS.iadd X0.here hx rfl (hb hby d10_2) rfl ?_
    show Steps p.tables e below (s₁.setTop (mkF m 3 #[.val (.ref bs), .val (.ref tx), .val (.int sx), .val (.int (1 : Int32)), .val (.int ey)] [(.int (sx + (1 : Int32)))])) _
    refine XS.iload X0.here hx rfl (hb hby d10_3) rfl ?_
    show Steps p.tables e below (s₁.setTop (mkF m 5 #[.val (.ref bs), .val (.ref tx), .val (.int sx), .val (.int (1 : Int32)), .val (.int ey)] [(.int ey), (.int (sx + (1 : Int32)))])) _
    exact kq)
  by_cases hc543 : (sx + (1 : Int32)) < ey
  · have G544 : Go p e below A0 (s₁.setTop (mkF m 10 #[.val (.ref bs), .val (.ref tx), .val (.int sx), .val (.int (1 : Int32)), .val (.int ey)] [])) := fun tq kq => G542 tq (by
      refine XS.icmpYes X0.here hx rfl (pc0 := 5) (pc' := 10) rfl (hb hby d10_5) rfl (tlt hc543).1 (by decide) (by decide) ?_
      show Steps p.tables e below (s₁.setTop (mkF m 10 #[.val (.ref bs), .val (.ref tx), .val (.int sx), .val (.int (1 : Int32)), .val (.int ey)] [])) _
      exact kq)
    have hyes := hc543
    have G545 : Go p e below A0 (s₁.setTop (mkF m 12 #[.val (.ref bs), .val (.ref tx), .val (.int sx), .val (.int (1 : Int32)), .val (.int ey)] [(.int (1 : Int32)), (.ref bs)])) := fun tq kq => G544 tq (by
      refine XS.aloadN X0.here hx rfl (hb hby d10_10) rfl rfl ?_
      show Steps p.tables e below (s₁.setTop (mkF m 11 #[.val (.ref bs), .val (.ref tx), .val (.int sx), .val (.int (1 : Int32)), .val (.int ey)] [(.ref bs)])) _
      refine XS.iloadN X0.here hx rfl (hb hby d10_11) rfl ?_
      show Steps p.tables e below (s₁.setTop (mkF m 12 #[.val (.ref bs), .val (.ref tx), .val (.int sx), .val (.int (1 : Int32)), .val (.int ey)] [(.int (1 : Int32)), (.ref bs)])) _
      exact kq)
    obtain ⟨cl546, Ar546, q546, S546, M546, H546⟩ := id Ab
    have hi547 : ¬ ((1 : Int32) < 0 ∨ cl546.slots.size ≤ ((1 : Int32)).toNatClampNeg) := (inb_of S546 ⟨by decide, by decide⟩)
    have G548 : Go p e below A0 (s₁.setTop (mkF m 17 #[.val (.ref bs), .val (.ref tx), .val (.int sx), .val (.int (1 : Int32)), .val (.int ey)] [(.int (sx + (1 : Int32))), (.ref tx), (.int (own_low (tt ((sx + (1 : Int32))).toNatClampNeg)))])) := fun tq kq => G545 tq (by
      refine X0.baloadBytes hx (j := (1 : Int32)) (v := (.int (own_low (tt ((sx + (1 : Int32))).toNatClampNeg)))) (by rw [e0]; exact Ar546.1) (State.isArrayOf_alike hZ.alike Ar546.2.1) Ar546.2.2 hi547 ((H546 _ (S546 ▸ Nat.lt_of_not_le fun y => hi547 (Or.inr y))).trans (congrArg some (congrArg Value.int (hct hyes).1))) (g := (mkF m 12 #[.val (.ref bs), .val (.ref tx), .val (.int sx), .val (.int (1 : Int32)), .val (.int ey)] [(.int (1 : Int32)), (.ref bs)])) rfl rfl (hb hby d10_12) _ ?_
      show Steps p.tables e below (s₁.setTop (mkF m 13 #[.val (.ref bs), .val (.ref tx), .val (.int sx), .val (.int (1 : Int32)), .val (.int ey)] [(.int (own_low (tt ((sx + (1 : Int32))).toNatClampNeg)))])) _
      refine XS.aloadN X0.here hx rfl (hb hby d10_13) rfl rfl ?_
      show Steps p.tables e below (s₁.setTop (mkF m 14 #[.val (.ref bs), .val (.ref tx), .val (.int sx), .val (.int (1 : Int32)), .val (.int ey)] [(.ref tx), (.int (own_low (tt ((sx + (1 : Int32))).toNatClampNeg)))])) _
      refine XS.iloadN X0.here hx rfl (hb hby d10_14) rfl ?_
      show Steps p.tables e below (s₁.setTop (mkF m 15 #[.val (.ref bs), .val (.ref tx), .val (.int sx), .val (.int (1 : Int32)), .val (.int ey)] [(.int sx), (.ref tx), (.int (own_low (tt ((sx + (1 : Int32))).toNatClampNeg)))])) _
      refine XS.iloadN X0.here hx rfl (hb hby d10_15) rfl ?_
      show Steps p.tables e below (s₁.setTop (mkF m 16 #[.val (.ref bs), .val (.ref tx), .val (.int sx), .val (.int (1 : Int32)), .val (.int ey)] [(.int (1 : Int32)), (.int sx), (.ref tx), (.int (own_low (tt ((sx + (1 : Int32))).toNatClampNeg)))])) _
      refine XS.iadd X0.here hx rfl (hb hby d10_16) rfl ?_
      show Steps p.tables e below (s₁.setTop (mkF m 17 #[.val (.ref bs), .val (.ref tx), .val (.int sx), .val (.int (1 : Int32)), .val (.int ey)] [(.int (sx + (1 : Int32))), (.ref tx), (.int (own_low (tt ((sx + (1 : Int32))).toNatClampNeg)))])) _
      exact kq)
    obtain ⟨cl549, Ar549, q549, S549, M549, H549⟩ := id At
    have hi550 : ¬ ((sx + (1 : Int32)) < 0 ∨ cl549.slots.size ≤ ((sx + (1 : Int32))).toNatClampNeg) := (inb_of S549 (hidx hyes))
    have G551 : Go p e below A0 (s₁.setTop (mkF m 18 #[.val (.ref bs), .val (.ref tx), .val (.int sx), .val (.int (1 : Int32)), .val (.int ey)] [(.int (tt ((sx + (1 : Int32))).toNatClampNeg)), (.int (own_low (tt ((sx + (1 : Int32))).toNatClampNeg)))])) := fun tq kq => G548 tq (by
      refine X0.caload hx (j := (sx + (1 : Int32))) (v := (.int (tt ((sx + (1 : Int32))).toNatClampNeg))) (by rw [e0]; exact Ar549.1) (State.isArrayOf_alike hZ.alike Ar549.2.1) Ar549.2.2 hi550 ((H549 _ (S549 ▸ Nat.lt_of_not_le fun y => hi550 (Or.inr y))).trans (congrArg some rfl)) (g := (mkF m 17 #[.val (.ref bs), .val (.ref tx), .val (.int sx), .val (.int (1 : Int32)), .val (.int ey)] [(.int (sx + (1 : Int32))), (.ref tx), (.int (own_low (tt ((sx + (1 : Int32))).toNatClampNeg)))])) rfl rfl (hb hby d10_17) _ ?_
      show Steps p.tables e below (s₁.setTop (mkF m 18 #[.val (.ref bs), .val (.ref tx), .val (.int sx), .val (.int (1 : Int32)), .val (.int ey)] [(.int (tt ((sx + (1 : Int32))).toNatClampNeg)), (.int (own_low (tt ((sx + (1 : Int32))).toNatClampNeg)))])) _
      exact kq)
    obtain ⟨_, _, ⟨T552, L552, k552, n552⟩, -, X552, ⟨Lc552, hQ552, l552, y552, z552⟩, st552⟩ := Jvm.LawKit.callS X0 hx (y := (⟨"com/example/subtree/subtree/index/PlainWordsResetPinLaw", "lower", "(C)I"⟩ : MethodName)) hown (mvT hZ (hw _ (List.mem_of_getElem? (i := 57) rfl))) (mvT hZ (hw _ (List.mem_of_getElem? (i := 58) rfl))) (mvT hZ (hw _ (List.mem_of_getElem? (i := 47) rfl))) (mvT hZ (hw _ (List.mem_of_getElem? (i := 59) rfl))) (by decide) (backOf (W := 1) (rmLO l Z a0 hw [] (tt ((sx + (1 : Int32))).toNatClampNeg) h0 n0 Z0) hZ (hw _ (List.mem_of_getElem? (i := 59) rfl)) (hw _ (List.mem_of_getElem? (i := 47) rfl)) (by decide) (by decide)) (g := (mkF m 18 #[.val (.ref bs), .val (.ref tx), .val (.int sx), .val (.int (1 : Int32)), .val (.int ey)] [(.int (tt ((sx + (1 : Int32))).toNatClampNeg)), (.int (own_low (tt ((sx + (1 : Int32))).toNatClampNeg)))])) rfl (by rw [hml]; rfl) (argsL := [(.int (tt ((sx + (1 : Int32))).toNatClampNeg))]) (rest := [(.int (own_low (tt ((sx + (1 : Int32))).toNatClampNeg)))]) (lenOf pd_0 rfl) rfl (by show 2 * 0 + _ ≤ _; exact Nat.le_of_eq rfl) (hb hby d10_18) (fun _ _ => ⟨rfl, e0, (by decide : 0 + 0 ≤ _), (by decide : 0 + 0 ≤ _)⟩)
    dsimp only [Pt.U, Pt.locs, Pt.cells, Pt.slots] at X552 l552 y552 z552 st552 hQ552
    obtain rfl : k552 = 0 := y552
    obtain rfl : n552 = 0 := z552
    obtain ⟨rfl, N552q, e552⟩ := hQ552
    have N552 : Fr n0 L552 := by rw [l552]; exact Fr.app N0 N552q
    have G553 : Go p e below A0 (T552.setTop (mkF m 21 #[.val (.ref bs), .val (.ref tx), .val (.int sx), .val (.int (1 : Int32)), .val (.int ey)] [(.int (own_low (tt ((sx + (1 : Int32))).toNatClampNeg))), (.int (own_low (tt ((sx + (1 : Int32))).toNatClampNeg)))])) := fun tq kq => G551 tq (st552 _ kq)
    have G554 : Go p e below A0 (T552.setTop (mkF m 30 #[.val (.ref bs), .val (.ref tx), .val (.int sx), .val (.int (1 : Int32)), .val (.int ey)] [(.int (1 : Int32))])) := fun tq kq => G553 tq (by
      refine XS.i2b X552.here hx rfl (hb hby d10_21) rfl ?_
      show Steps p.tables e below (T552.setTop (mkF m 22 #[.val (.ref bs), .val (.ref tx), .val (.int sx), .val (.int (1 : Int32)), .val (.int ey)] [(.int (own_low (tt ((sx + (1 : Int32))).toNatClampNeg)).toInt8.toInt32), (.int (own_low (tt ((sx + (1 : Int32))).toNatClampNeg)))])) _
      rw [show (own_low (tt ((sx + (1 : Int32))).toNatClampNeg)).toInt8.toInt32 = (own_low (tt ((sx + (1 : Int32))).toNatClampNeg)) from own_lowB (hct hyes).2]
      show Steps p.tables e below (T552.setTop (mkF m 22 #[.val (.ref bs), .val (.ref tx), .val (.int sx), .val (.int (1 : Int32)), .val (.int ey)] [(.int (own_low (tt ((sx + (1 : Int32))).toNatClampNeg))), (.int (own_low (tt ((sx + (1 : Int32))).toNatClampNeg)))])) _
      refine XS.icmpNo X552.here hx rfl (hb hby d10_22) rfl (teq (rfl : (own_low (tt ((sx + (1 : Int32))).toNatClampNeg)) = (own_low (tt ((sx + (1 : Int32))).toNatClampNeg)))).2 ?_
      show Steps p.tables e below (T552.setTop (mkF m 25 #[.val (.ref bs), .val (.ref tx), .val (.int sx), .val (.int (1 : Int32)), .val (.int ey)] [])) _
      refine XS.iconst X552.here hx rfl (hb hby d10_25) ?_
      show Steps p.tables e below (T552.setTop (mkF m 26 #[.val (.ref bs), .val (.ref tx), .val (.int sx), .val (.int (1 : Int32)), .val (.int ey)] [(.int (1 : Int32))])) _
      refine XS.goto X552.here hx rfl (pc0 := 26) (pc' := 30) rfl (hb hby d10_26) (by decide) (by decide) ?_
      show Steps p.tables e below (T552.setTop (mkF m 30 #[.val (.ref bs), .val (.ref tx), .val (.int sx), .val (.int (1 : Int32)), .val (.int ey)] [(.int (1 : Int32))])) _
      exact kq)
    obtain ⟨fs, hr, hrun, hended, hW, hsame⟩ := X552.leave (v := some (.int (nar .boolean (1 : Int32)))) (fun h => by rw [Bd.returns] at h; cases h)
    refine ⟨_, _, (by rw [← hA0]; exact G554 _ (retN X552 hx (t := .boolean) Bd.returns (by simp) (hb hby d10_30) hr)), hrun, hended, _, _, rfl, ?_, ⟨_, rfl⟩, hW, hsame.mono (by decide) (by decide)⟩
    exact ⟨rfl, N552, e552⟩
  · have G555 : Go p e below A0 (s₁.setTop (mkF m 9 #[.val (.ref bs), .val (.ref tx), .val (.int sx), .val (.int (1 : Int32)), .val (.int ey)] [(.int (1 : Int32))])) := fun tq kq => G542 tq (by
      refine XS.icmpNo X0.here hx rfl (hb hby d10_5) rfl (flt hc543).1 ?_
      show Steps p.tables e below (s₁.setTop (mkF m 8 #[.val (.ref bs), .val (.ref tx), .val (.int sx), .val (.int (1 : Int32)), .val (.int ey)] [])) _
      refine XS.iconst X0.here hx rfl (hb hby d10_8) ?_
      show Steps p.tables e below (s₁.setTop (mkF m 9 #[.val (.ref bs), .val (.ref tx), .val (.int sx), .val (.int (1 : Int32)), .val (.int ey)] [(.int (1 : Int32))])) _
      exact kq)
    obtain ⟨fs, hr, hrun, hended, hW, hsame⟩ := X0.leave (v := some (.int (nar .boolean (1 : Int32)))) (fun h => by rw [Bd.returns] at h; cases h)
    refine ⟨_, _, (by rw [← hA0]; exact G555 _ (retN X0 hx (t := .boolean) Bd.returns (by simp) (hb hby d10_9) hr)), hrun, hended, _, _, rfl, ?_, ⟨_, rfl⟩, hW, hsame.mono (by decide) (by decide)⟩
    exact ⟨rfl, N0, e0⟩
set_option maxRecDepth 65536 in
set_option maxHeartbeats 40000000 in
theorem rmSM2 (l : Launch) (Z : State) (a0 : Array Value) (hw : ∀ d ∈ tables_1, d.before a0 Z = true) (ws : List Jvm.Cond) (bs tx : Addr) (tt gw : Nat → Int32) (sx ey zt : Int32) (kw kt : ClassId) (h0 : Heap) (n0 : Nat) (Z0 : n0 ≤ h0.size) (Ab : Af Z h0 bs kw .byte (64 : Int32) (fun i => .int (gw i))) (At : Af Z h0 tx kt .char zt (fun i => .int (tt i))) (hct : ((sx + (1 : Int32)) + (1 : Int32)) < ey → gw 2 = own_low (tt (((sx + (1 : Int32)) + (1 : Int32))).toNatClampNeg) ∧ own_W (tt (((sx + (1 : Int32)) + (1 : Int32))).toNatClampNeg)) (hidx : ((sx + (1 : Int32)) + (1 : Int32)) < ey → ¬ ((sx + (1 : Int32)) + (1 : Int32)) < 0 ∧ ((sx + (1 : Int32)) + (1 : Int32)) < zt) :
    MetFree l (⟨"com/example/subtree/subtree/index/PlainWordsResetPinLaw", "same", "([B[CIII)Z"⟩ : MethodName) (head1 (Jvm.Cond.code (⟨"com/example/subtree/subtree/index/PlainWordsResetPinLaw", "same", "([B[CIII)Z"⟩ : MethodName) method_5_code 5 (some .boolean) :: ws) ({ frames := 1, cells := 0, slots := 0, locals := 13 } : Room)) (fun aa UU => aa = #[(.ref bs), (.ref tx), (.int sx), (.int (2 : Int32)), (.int ey)] ∧ Z.Warmed39 UU.vm ∧ UU.heap = h0) (fun _ _ _ _ _ => True) (fun _ UU oo U' => ∃ v L, oo = .returned v ∧ Qr (.int 1) h0 n0 v U'.heap L ∧ FrameEnd UU oo U' L ({ frames := 1, cells := 0, slots := 0, locals := 13 } : Room).cells ({ frames := 1, cells := 0, slots := 0, locals := 13 } : Room).slots) := by
  refine MetFree.of_bodySF (plainFor_of_name pn_0) hisR ?_
  intro p e s m args below meth c s₁ Bd hml0 hP hK
  obtain ⟨rfl, hZ, hh⟩ := hP
  have hx := Bd.exec
  have hby := Bd.bytes
  have hml : c.maxLocals = 5 := hml0
  have hown : s.vm.findClass "com/example/subtree/subtree/index/PlainWordsResetPinLaw" = some m.cls := findClass_of_methodNamed Bd.named
  have hnm := (name_of_methodNamed Bd.named Bd.method).1
  have X0 : Stand p l e ({ frames := 1, cells := 0, slots := 0, locals := 13 } : Room) s m #[(.ref bs), (.ref tx), (.int sx), (.int (2 : Int32)), (.int ey)] below meth c s₁ [] 0 0 := Stand.of_body Bd
  have e0 : s₁.heap = h0 := by rw [← hh, Bd.state]; rfl
  have N0 := Fr.nil n0
  obtain ⟨A0, hA0⟩ : ∃ A, A = s₁.setTop (entryFrame m #[(.ref bs), (.ref tx), (.int sx), (.int (2 : Int32)), (.int ey)] 5) := ⟨_, rfl⟩
  have G0 : Go p e below A0 (s₁.setTop (mkF m 0 #[.val (.ref bs), .val (.ref tx), .val (.int sx), .val (.int (2 : Int32)), .val (.int ey)] [])) := fun tq kq => by rw [hA0]; exact castTop (ef_rmSM2 m bs tx sx (2 : Int32) ey) kq
  have G556 : Go p e below A0 (s₁.setTop (mkF m 5 #[.val (.ref bs), .val (.ref tx), .val (.int sx), .val (.int (2 : Int32)), .val (.int ey)] [(.int ey), (.int ((sx + (1 : Int32)) + (1 : Int32)))])) := fun tq kq => G0 tq (by
    refine XS.iloadN X0.here hx rfl (hb hby d10_0) rfl ?_
    show Steps p.tables e below (s₁.setTop (mkF m 1 #[.val (.ref bs), .val (.ref tx), .val (.int sx), .val (.int (2 : Int32)), .val (.int ey)] [(.int sx)])) _
    refine XS.iloadN X0.here hx rfl (hb hby d10_1) rfl ?_
    show Steps p.tables e below (s₁.setTop (mkF m 2 #[.val (.ref bs), .val (.ref tx), .val (.int sx), .val (.int (2 : Int32)), .val (.int ey)] [(.int (2 : Int32)), (.int sx)])) _
    refine XS.iadd X0.here hx rfl (hb hby d10_2) rfl ?_
    show Steps p.tables e below (s₁.setTop (mkF m 3 #[.val (.ref bs), .val (.ref tx), .val (.int sx), .val (.int (2 : Int32)), .val (.int ey)] [(.int (sx + (2 : Int32)))])) _
    rw [show (sx + (2 : Int32)) = ((sx + (1 : Int32)) + (1 : Int32)) from own_add2 sx]
    show Steps p.tables e below (s₁.setTop (mkF m 3 #[.val (.ref bs), .val (.ref tx), .val (.int sx), .val (.int (2 : Int32)), .val (.int ey)] [(.int ((sx + (1 : Int32)) + (1 : Int32)))])) _
    refine XS.iload X0.here hx rfl (hb hby d10_3) rfl ?_
    show Steps p.tables e below (s₁.setTop (mkF m 5 #[.val (.ref bs), .val (.ref tx), .val (.int sx), .val (.int (2 : Int32)), .val (.int ey)] [(.int ey), (.int ((sx + (1 : Int32)) + (1 : Int32)))])) _
    exact kq)
  by_cases hc557 : ((sx + (1 : Int32)) + (1 : Int32)) < ey
  · have G558 : Go p e below A0 (s₁.setTop (mkF m 10 #[.val (.ref bs), .val (.ref tx), .val (.int sx), .val (.int (2 : Int32)), .val (.int ey)] [])) := fun tq kq => G556 tq (by
      refine XS.icmpYes X0.here hx rfl (pc0 := 5) (pc' := 10) rfl (hb hby d10_5) rfl (tlt hc557).1 (by decide) (by decide) ?_
      show Steps p.tables e below (s₁.setTop (mkF m 10 #[.val (.ref bs), .val (.ref tx), .val (.int sx), .val (.int (2 : Int32)), .val (.int ey)] [])) _
      exact kq)
    have hyes := hc557
    have G559 : Go p e below A0 (s₁.setTop (mkF m 12 #[.val (.ref bs), .val (.ref tx), .val (.int sx), .val (.int (2 : Int32)), .val (.int ey)] [(.int (2 : Int32)), (.ref bs)])) := fun tq kq => G558 tq (by
      refine XS.aloadN X0.here hx rfl (hb hby d10_10) rfl rfl ?_
      show Steps p.tables e below (s₁.setTop (mkF m 11 #[.val (.ref bs), .val (.ref tx), .val (.int sx), .val (.int (2 : Int32)), .val (.int ey)] [(.ref bs)])) _
      refine XS.iloadN X0.here hx rfl (hb hby d10_11) rfl ?_
      show Steps p.tables e below (s₁.setTop (mkF m 12 #[.val (.ref bs), .val (.ref tx), .val (.int sx), .val (.int (2 : Int32)), .val (.int ey)] [(.int (2 : Int32)), (.ref bs)])) _
      exact kq)
    obtain ⟨cl560, Ar560, q560, S560, M560, H560⟩ := id Ab
    have hi561 : ¬ ((2 : Int32) < 0 ∨ cl560.slots.size ≤ ((2 : Int32)).toNatClampNeg) := (inb_of S560 ⟨by decide, by decide⟩)
    have G562 : Go p e below A0 (s₁.setTop (mkF m 17 #[.val (.ref bs), .val (.ref tx), .val (.int sx), .val (.int (2 : Int32)), .val (.int ey)] [(.int ((sx + (1 : Int32)) + (1 : Int32))), (.ref tx), (.int (own_low (tt (((sx + (1 : Int32)) + (1 : Int32))).toNatClampNeg)))])) := fun tq kq => G559 tq (by
      refine X0.baloadBytes hx (j := (2 : Int32)) (v := (.int (own_low (tt (((sx + (1 : Int32)) + (1 : Int32))).toNatClampNeg)))) (by rw [e0]; exact Ar560.1) (State.isArrayOf_alike hZ.alike Ar560.2.1) Ar560.2.2 hi561 ((H560 _ (S560 ▸ Nat.lt_of_not_le fun y => hi561 (Or.inr y))).trans (congrArg some (congrArg Value.int (hct hyes).1))) (g := (mkF m 12 #[.val (.ref bs), .val (.ref tx), .val (.int sx), .val (.int (2 : Int32)), .val (.int ey)] [(.int (2 : Int32)), (.ref bs)])) rfl rfl (hb hby d10_12) _ ?_
      show Steps p.tables e below (s₁.setTop (mkF m 13 #[.val (.ref bs), .val (.ref tx), .val (.int sx), .val (.int (2 : Int32)), .val (.int ey)] [(.int (own_low (tt (((sx + (1 : Int32)) + (1 : Int32))).toNatClampNeg)))])) _
      refine XS.aloadN X0.here hx rfl (hb hby d10_13) rfl rfl ?_
      show Steps p.tables e below (s₁.setTop (mkF m 14 #[.val (.ref bs), .val (.ref tx), .val (.int sx), .val (.int (2 : Int32)), .val (.int ey)] [(.ref tx), (.int (own_low (tt (((sx + (1 : Int32)) + (1 : Int32))).toNatClampNeg)))])) _
      refine XS.iloadN X0.here hx rfl (hb hby d10_14) rfl ?_
      show Steps p.tables e below (s₁.setTop (mkF m 15 #[.val (.ref bs), .val (.ref tx), .val (.int sx), .val (.int (2 : Int32)), .val (.int ey)] [(.int sx), (.ref tx), (.int (own_low (tt (((sx + (1 : Int32)) + (1 : Int32))).toNatClampNeg)))])) _
      refine XS.iloadN X0.here hx rfl (hb hby d10_15) rfl ?_
      show Steps p.tables e below (s₁.setTop (mkF m 16 #[.val (.ref bs), .val (.ref tx), .val (.int sx), .val (.int (2 : Int32)), .val (.int ey)] [(.int (2 : Int32)), (.int sx), (.ref tx), (.int (own_low (tt (((sx + (1 : Int32)) + (1 : Int32))).toNatClampNeg)))])) _
      refine XS.iadd X0.here hx rfl (hb hby d10_16) rfl ?_
      show Steps p.tables e below (s₁.setTop (mkF m 17 #[.val (.ref bs), .val (.ref tx), .val (.int sx), .val (.int (2 : Int32)), .val (.int ey)] [(.int (sx + (2 : Int32))), (.ref tx), (.int (own_low (tt (((sx + (1 : Int32)) + (1 : Int32))).toNatClampNeg)))])) _
      rw [show (sx + (2 : Int32)) = ((sx + (1 : Int32)) + (1 : Int32)) from own_add2 sx]
      show Steps p.tables e below (s₁.setTop (mkF m 17 #[.val (.ref bs), .val (.ref tx), .val (.int sx), .val (.int (2 : Int32)), .val (.int ey)] [(.int ((sx + (1 : Int32)) + (1 : Int32))), (.ref tx), (.int (own_low (tt (((sx + (1 : Int32)) + (1 : Int32))).toNatClampNeg)))])) _
      exact kq)
    obtain ⟨cl563, Ar563, q563, S563, M563, H563⟩ := id At
    have hi564 : ¬ (((sx + (1 : Int32)) + (1 : Int32)) < 0 ∨ cl563.slots.size ≤ (((sx + (1 : Int32)) + (1 : Int32))).toNatClampNeg) := (inb_of S563 (hidx hyes))
    have G565 : Go p e below A0 (s₁.setTop (mkF m 18 #[.val (.ref bs), .val (.ref tx), .val (.int sx), .val (.int (2 : Int32)), .val (.int ey)] [(.int (tt (((sx + (1 : Int32)) + (1 : Int32))).toNatClampNeg)), (.int (own_low (tt (((sx + (1 : Int32)) + (1 : Int32))).toNatClampNeg)))])) := fun tq kq => G562 tq (by
      refine X0.caload hx (j := ((sx + (1 : Int32)) + (1 : Int32))) (v := (.int (tt (((sx + (1 : Int32)) + (1 : Int32))).toNatClampNeg))) (by rw [e0]; exact Ar563.1) (State.isArrayOf_alike hZ.alike Ar563.2.1) Ar563.2.2 hi564 ((H563 _ (S563 ▸ Nat.lt_of_not_le fun y => hi564 (Or.inr y))).trans (congrArg some rfl)) (g := (mkF m 17 #[.val (.ref bs), .val (.ref tx), .val (.int sx), .val (.int (2 : Int32)), .val (.int ey)] [(.int ((sx + (1 : Int32)) + (1 : Int32))), (.ref tx), (.int (own_low (tt (((sx + (1 : Int32)) + (1 : Int32))).toNatClampNeg)))])) rfl rfl (hb hby d10_17) _ ?_
      show Steps p.tables e below (s₁.setTop (mkF m 18 #[.val (.ref bs), .val (.ref tx), .val (.int sx), .val (.int (2 : Int32)), .val (.int ey)] [(.int (tt (((sx + (1 : Int32)) + (1 : Int32))).toNatClampNeg)), (.int (own_low (tt (((sx + (1 : Int32)) + (1 : Int32))).toNatClampNeg)))])) _
      exact kq)
    obtain ⟨_, _, ⟨T566, L566, k566, n566⟩, -, X566, ⟨Lc566, hQ566, l566, y566, z566⟩, st566⟩ := Jvm.LawKit.callS X0 hx (y := (⟨"com/example/subtree/subtree/index/PlainWordsResetPinLaw", "lower", "(C)I"⟩ : MethodName)) hown (mvT hZ (hw _ (List.mem_of_getElem? (i := 57) rfl))) (mvT hZ (hw _ (List.mem_of_getElem? (i := 58) rfl))) (mvT hZ (hw _ (List.mem_of_getElem? (i := 47) rfl))) (mvT hZ (hw _ (List.mem_of_getElem? (i := 59) rfl))) (by decide) (backOf (W := 1) (rmLO l Z a0 hw [] (tt (((sx + (1 : Int32)) + (1 : Int32))).toNatClampNeg) h0 n0 Z0) hZ (hw _ (List.mem_of_getElem? (i := 59) rfl)) (hw _ (List.mem_of_getElem? (i := 47) rfl)) (by decide) (by decide)) (g := (mkF m 18 #[.val (.ref bs), .val (.ref tx), .val (.int sx), .val (.int (2 : Int32)), .val (.int ey)] [(.int (tt (((sx + (1 : Int32)) + (1 : Int32))).toNatClampNeg)), (.int (own_low (tt (((sx + (1 : Int32)) + (1 : Int32))).toNatClampNeg)))])) rfl (by rw [hml]; rfl) (argsL := [(.int (tt (((sx + (1 : Int32)) + (1 : Int32))).toNatClampNeg))]) (rest := [(.int (own_low (tt (((sx + (1 : Int32)) + (1 : Int32))).toNatClampNeg)))]) (lenOf pd_0 rfl) rfl (by show 2 * 0 + _ ≤ _; exact Nat.le_of_eq rfl) (hb hby d10_18) (fun _ _ => ⟨rfl, e0, (by decide : 0 + 0 ≤ _), (by decide : 0 + 0 ≤ _)⟩)
    dsimp only [Pt.U, Pt.locs, Pt.cells, Pt.slots] at X566 l566 y566 z566 st566 hQ566
    obtain rfl : k566 = 0 := y566
    obtain rfl : n566 = 0 := z566
    obtain ⟨rfl, N566q, e566⟩ := hQ566
    have N566 : Fr n0 L566 := by rw [l566]; exact Fr.app N0 N566q
    have G567 : Go p e below A0 (T566.setTop (mkF m 21 #[.val (.ref bs), .val (.ref tx), .val (.int sx), .val (.int (2 : Int32)), .val (.int ey)] [(.int (own_low (tt (((sx + (1 : Int32)) + (1 : Int32))).toNatClampNeg))), (.int (own_low (tt (((sx + (1 : Int32)) + (1 : Int32))).toNatClampNeg)))])) := fun tq kq => G565 tq (st566 _ kq)
    have G568 : Go p e below A0 (T566.setTop (mkF m 30 #[.val (.ref bs), .val (.ref tx), .val (.int sx), .val (.int (2 : Int32)), .val (.int ey)] [(.int (1 : Int32))])) := fun tq kq => G567 tq (by
      refine XS.i2b X566.here hx rfl (hb hby d10_21) rfl ?_
      show Steps p.tables e below (T566.setTop (mkF m 22 #[.val (.ref bs), .val (.ref tx), .val (.int sx), .val (.int (2 : Int32)), .val (.int ey)] [(.int (own_low (tt (((sx + (1 : Int32)) + (1 : Int32))).toNatClampNeg)).toInt8.toInt32), (.int (own_low (tt (((sx + (1 : Int32)) + (1 : Int32))).toNatClampNeg)))])) _
      rw [show (own_low (tt (((sx + (1 : Int32)) + (1 : Int32))).toNatClampNeg)).toInt8.toInt32 = (own_low (tt (((sx + (1 : Int32)) + (1 : Int32))).toNatClampNeg)) from own_lowB (hct hyes).2]
      show Steps p.tables e below (T566.setTop (mkF m 22 #[.val (.ref bs), .val (.ref tx), .val (.int sx), .val (.int (2 : Int32)), .val (.int ey)] [(.int (own_low (tt (((sx + (1 : Int32)) + (1 : Int32))).toNatClampNeg))), (.int (own_low (tt (((sx + (1 : Int32)) + (1 : Int32))).toNatClampNeg)))])) _
      refine XS.icmpNo X566.here hx rfl (hb hby d10_22) rfl (teq (rfl : (own_low (tt (((sx + (1 : Int32)) + (1 : Int32))).toNatClampNeg)) = (own_low (tt (((sx + (1 : Int32)) + (1 : Int32))).toNatClampNeg)))).2 ?_
      show Steps p.tables e below (T566.setTop (mkF m 25 #[.val (.ref bs), .val (.ref tx), .val (.int sx), .val (.int (2 : Int32)), .val (.int ey)] [])) _
      refine XS.iconst X566.here hx rfl (hb hby d10_25) ?_
      show Steps p.tables e below (T566.setTop (mkF m 26 #[.val (.ref bs), .val (.ref tx), .val (.int sx), .val (.int (2 : Int32)), .val (.int ey)] [(.int (1 : Int32))])) _
      refine XS.goto X566.here hx rfl (pc0 := 26) (pc' := 30) rfl (hb hby d10_26) (by decide) (by decide) ?_
      show Steps p.tables e below (T566.setTop (mkF m 30 #[.val (.ref bs), .val (.ref tx), .val (.int sx), .val (.int (2 : Int32)), .val (.int ey)] [(.int (1 : Int32))])) _
      exact kq)
    obtain ⟨fs, hr, hrun, hended, hW, hsame⟩ := X566.leave (v := some (.int (nar .boolean (1 : Int32)))) (fun h => by rw [Bd.returns] at h; cases h)
    refine ⟨_, _, (by rw [← hA0]; exact G568 _ (retN X566 hx (t := .boolean) Bd.returns (by simp) (hb hby d10_30) hr)), hrun, hended, _, _, rfl, ?_, ⟨_, rfl⟩, hW, hsame.mono (by decide) (by decide)⟩
    exact ⟨rfl, N566, e566⟩
  · have G569 : Go p e below A0 (s₁.setTop (mkF m 9 #[.val (.ref bs), .val (.ref tx), .val (.int sx), .val (.int (2 : Int32)), .val (.int ey)] [(.int (1 : Int32))])) := fun tq kq => G556 tq (by
      refine XS.icmpNo X0.here hx rfl (hb hby d10_5) rfl (flt hc557).1 ?_
      show Steps p.tables e below (s₁.setTop (mkF m 8 #[.val (.ref bs), .val (.ref tx), .val (.int sx), .val (.int (2 : Int32)), .val (.int ey)] [])) _
      refine XS.iconst X0.here hx rfl (hb hby d10_8) ?_
      show Steps p.tables e below (s₁.setTop (mkF m 9 #[.val (.ref bs), .val (.ref tx), .val (.int sx), .val (.int (2 : Int32)), .val (.int ey)] [(.int (1 : Int32))])) _
      exact kq)
    obtain ⟨fs, hr, hrun, hended, hW, hsame⟩ := X0.leave (v := some (.int (nar .boolean (1 : Int32)))) (fun h => by rw [Bd.returns] at h; cases h)
    refine ⟨_, _, (by rw [← hA0]; exact G569 _ (retN X0 hx (t := .boolean) Bd.returns (by simp) (hb hby d10_9) hr)), hrun, hended, _, _, rfl, ?_, ⟨_, rfl⟩, hW, hsame.mono (by decide) (by decide)⟩
    exact ⟨rfl, N0, e0⟩
theorem own_ix {sq eq_ n : Int32} (hz : ¬ sq < 0) (hs : ¬ n < sq) (he : ¬ n < eq_) (h3 : ¬ (3 : Int32) < n) : (sq < eq_ → ¬ sq < 0 ∧ sq < (3 : Int32)) ∧ ((sq + (1 : Int32)) < eq_ → ¬ (sq + (1 : Int32)) < 0 ∧ (sq + (1 : Int32)) < (3 : Int32)) ∧ (((sq + (1 : Int32)) + (1 : Int32)) < eq_ → ¬ ((sq + (1 : Int32)) + (1 : Int32)) < 0 ∧ ((sq + (1 : Int32)) + (1 : Int32)) < (3 : Int32)) := by
  have a := c_iadd sq 1
  have b := rng32 (sq + 1)
  have c := c_iadd (sq + 1) 1
  have d := rng32 (sq + 1 + 1)
  simp only [Int32.lt_iff_toInt_lt, Int32.reduceToInt] at *
  omega
def Q0c (n0 : Nat) (v : Option Value) (L : List Loc) : Prop := v = some (.int 1) ∧ Fr n0 L
set_option maxRecDepth 65536 in
set_option maxHeartbeats 40000000 in
theorem rm0 (l : Launch) (Z : State) (a0 : Array Value) (hw : ∀ d ∈ tables_1, d.before a0 Z = true) (ws : List Jvm.Cond) (p0 p1 p2 p3 : Int32) (tb : Addr) (kb : ClassId) (h0 : Heap) (n0 : Nat) (Z0 : n0 ≤ h0.size) (hold : Old Z n0 h0) (hSd : Sta Z Z.heap "com/example/subtree/subtree/index/PlainWords" "ASCII_WORD_BYTES" "[B" (.ref tb)) (hAd : Af Z Z.heap tb kb .byte (128 : Int32) (fun i => .int (own_a i.toInt32))) :
    MetFree l x (head1 (Jvm.Cond.code x code maxLocals ret :: ws) room_1) (fun aa UU => aa = #[(.int p0), (.int p1), (.int p2), (.int p3)] ∧ Z.Warmed39 UU.vm ∧ UU.heap = h0) (fun _ _ _ _ _ => True) (fun _ UU oo U' => ∃ v L, oo = .returned v ∧ Q0c n0 v L ∧ FrameEnd UU oo U' L room_1.cells room_1.slots) := by
  refine MetFree.of_bodySF (plainFor_of_name pn_0) hisR ?_
  intro p e s m args below meth c s₁ Bd hml0 hP hK
  obtain ⟨rfl, hZ, hh⟩ := hP
  have hx := Bd.exec
  have hby := Bd.bytes
  have hml : c.maxLocals = 16 := hml0
  have hown : s.vm.findClass "com/example/subtree/subtree/index/PlainWordsResetPinLaw" = some m.cls := findClass_of_methodNamed Bd.named
  have hnm := (name_of_methodNamed Bd.named Bd.method).1
  have X0 : Stand p l e room_1 s m #[(.int p0), (.int p1), (.int p2), (.int p3)] below meth c s₁ [] 0 0 := Stand.of_body Bd
  have e0 : s₁.heap = h0 := by rw [← hh, Bd.state]; rfl
  have N0 := Fr.nil n0
  obtain ⟨A0, hA0⟩ : ∃ A, A = s₁.setTop (entryFrame m #[(.int p0), (.int p1), (.int p2), (.int p3)] maxLocals) := ⟨_, rfl⟩
  have G0 : Go p e below A0 (s₁.setTop (mkF m 0 #[.val (.int p0), .val (.int p1), .val (.int p2), .val (.int p3), .unset, .unset, .unset, .unset, .unset, .unset, .unset, .unset, .unset, .unset, .unset, .unset] [])) := fun tq kq => by rw [hA0]; exact castTop (ef_rm0 m p0 p1 p2 p3) kq
  have G570 : Go p e below A0 (s₁.setTop (mkF m 1 #[.val (.int p0), .val (.int p1), .val (.int p2), .val (.int p3), .unset, .unset, .unset, .unset, .unset, .unset, .unset, .unset, .unset, .unset, .unset, .unset] [(.int (4 : Int32))])) := fun tq kq => G0 tq (by
    refine XS.iconst X0.here hx rfl (hb hby at_0) ?_
    show Steps p.tables e below (s₁.setTop (mkF m 1 #[.val (.int p0), .val (.int p1), .val (.int p2), .val (.int p3), .unset, .unset, .unset, .unset, .unset, .unset, .unset, .unset, .unset, .unset, .unset, .unset] [(.int (4 : Int32))])) _
    exact kq)
  obtain ⟨T571, h571, k571, X571, e571, E571, A571, st571⟩ := newP X0 hx hZ (hw _ (List.mem_of_getElem? (i := 0) rfl)) e0 (g := (mkF m 1 #[.val (.int p0), .val (.int p1), .val (.int p2), .val (.int p3), .unset, .unset, .unset, .unset, .unset, .unset, .unset, .unset, .unset, .unset, .unset, .unset] [(.int (4 : Int32))])) rfl (hb hby at_1) rfl (by decide) (cap := 4) (by decide) (by decide) (by decide) (by decide)
  obtain ⟨b571, g571⟩ : ∃ z, z = h0.size := ⟨_, rfl⟩
  rw [← g571] at A571 st571
  have sz_b571 : h0.size ≤ b571 := Nat.le_trans (Nat.le_refl h0.size) (Nat.le_of_eq g571.symm)
  have g_b571 : n0 ≤ b571 := Nat.le_trans Z0 (Nat.le_of_eq g571.symm)
  have V571 : Arv Z h571 b571 k571 .char (4 : Int32) [(.int (0 : Int32)), (.int (0 : Int32)), (.int (0 : Int32)), (.int (0 : Int32))] (.int (0 : Int32)) := (Arv.new A571 (by decide)).pad (pad_rep [] (.int (0 : Int32)) 4)
  have G572 : Go p e below A0 (T571.setTop (mkF m 3 #[.val (.int p0), .val (.int p1), .val (.int p2), .val (.int p3), .unset, .unset, .unset, .unset, .unset, .unset, .unset, .unset, .unset, .unset, .unset, .unset] [(.ref b571)])) := fun tq kq => G570 tq (st571 _ kq)
  have G573 : Go p e below A0 (T571.setTop (mkF m 7 #[.val (.int p0), .val (.int p1), .val (.int p2), .val (.int p3), .unset, .unset, .unset, .unset, .unset, .unset, .unset, .unset, .unset, .unset, .unset, .unset] [(.int (81 : Int32)), (.int (0 : Int32)), (.ref b571), (.ref b571)])) := fun tq kq => G572 tq (by
    refine XS.dup X571.here hx rfl (hb hby at_3) rfl rfl ?_
    show Steps p.tables e below (T571.setTop (mkF m 4 #[.val (.int p0), .val (.int p1), .val (.int p2), .val (.int p3), .unset, .unset, .unset, .unset, .unset, .unset, .unset, .unset, .unset, .unset, .unset, .unset] [(.ref b571), (.ref b571)])) _
    refine XS.iconst X571.here hx rfl (hb hby at_4) ?_
    show Steps p.tables e below (T571.setTop (mkF m 5 #[.val (.int p0), .val (.int p1), .val (.int p2), .val (.int p3), .unset, .unset, .unset, .unset, .unset, .unset, .unset, .unset, .unset, .unset, .unset, .unset] [(.int (0 : Int32)), (.ref b571), (.ref b571)])) _
    refine XS.bipush X571.here hx rfl (hb hby at_5) ?_
    show Steps p.tables e below (T571.setTop (mkF m 7 #[.val (.int p0), .val (.int p1), .val (.int p2), .val (.int p3), .unset, .unset, .unset, .unset, .unset, .unset, .unset, .unset, .unset, .unset, .unset, .unset] [(.int (81 : Int32)), (.int (0 : Int32)), (.ref b571), (.ref b571)])) _
    exact kq)
  obtain ⟨cl574, Ar574, q574, S574, M574, H574, Gf574⟩ := id V571
  have hi575 : ¬ ((0 : Int32) < 0 ∨ cl574.slots.size ≤ ((0 : Int32)).toNatClampNeg) := (inb_of S574 ⟨by decide, by decide⟩)
  obtain ⟨T576, h576, X576, e576, W576, st576⟩ := stC X571 hx hZ e571 Ar574 (j := (0 : Int32)) hi575 (g := (mkF m 7 #[.val (.int p0), .val (.int p1), .val (.int p2), .val (.int p3), .unset, .unset, .unset, .unset, .unset, .unset, .unset, .unset, .unset, .unset, .unset, .unset] [(.int (81 : Int32)), (.int (0 : Int32)), (.ref b571), (.ref b571)])) rfl rfl (hb hby at_7)
  rw [show nar .char (81 : Int32) = (81 : Int32) from by decide] at W576
  have N576 := Fr.snoc X576 N0 g_b571
  have V576 := Arv.set Ar574 q574 S574 M574 H574 Gf574 rfl W576 0 rfl (Nat.le_of_ble_eq_true rfl)
  have V576' : Arv Z h576 b571 k571 .char (4 : Int32) [(.int (81 : Int32)), (.int (0 : Int32)), (.int (0 : Int32)), (.int (0 : Int32))] (.int (0 : Int32)) := by exact V576
  have G577 : Go p e below A0 (T576.setTop (mkF m 8 #[.val (.int p0), .val (.int p1), .val (.int p2), .val (.int p3), .unset, .unset, .unset, .unset, .unset, .unset, .unset, .unset, .unset, .unset, .unset, .unset] [(.ref b571)])) := fun tq kq => G573 tq (st576 _ kq)
  have G578 : Go p e below A0 (T576.setTop (mkF m 12 #[.val (.int p0), .val (.int p1), .val (.int p2), .val (.int p3), .unset, .unset, .unset, .unset, .unset, .unset, .unset, .unset, .unset, .unset, .unset, .unset] [(.int (57 : Int32)), (.int (1 : Int32)), (.ref b571), (.ref b571)])) := fun tq kq => G577 tq (by
    refine XS.dup X576.here hx rfl (hb hby at_8) rfl rfl ?_
    show Steps p.tables e below (T576.setTop (mkF m 9 #[.val (.int p0), .val (.int p1), .val (.int p2), .val (.int p3), .unset, .unset, .unset, .unset, .unset, .unset, .unset, .unset, .unset, .unset, .unset, .unset] [(.ref b571), (.ref b571)])) _
    refine XS.iconst X576.here hx rfl (hb hby at_9) ?_
    show Steps p.tables e below (T576.setTop (mkF m 10 #[.val (.int p0), .val (.int p1), .val (.int p2), .val (.int p3), .unset, .unset, .unset, .unset, .unset, .unset, .unset, .unset, .unset, .unset, .unset, .unset] [(.int (1 : Int32)), (.ref b571), (.ref b571)])) _
    refine XS.bipush X576.here hx rfl (hb hby at_10) ?_
    show Steps p.tables e below (T576.setTop (mkF m 12 #[.val (.int p0), .val (.int p1), .val (.int p2), .val (.int p3), .unset, .unset, .unset, .unset, .unset, .unset, .unset, .unset, .unset, .unset, .unset, .unset] [(.int (57 : Int32)), (.int (1 : Int32)), (.ref b571), (.ref b571)])) _
    exact kq)
  obtain ⟨cl579, Ar579, q579, S579, M579, H579, Gf579⟩ := id V576'
  have hi580 : ¬ ((1 : Int32) < 0 ∨ cl579.slots.size ≤ ((1 : Int32)).toNatClampNeg) := (inb_of S579 ⟨by decide, by decide⟩)
  obtain ⟨T581, h581, X581, e581, W581, st581⟩ := stC X576 hx hZ e576 Ar579 (j := (1 : Int32)) hi580 (g := (mkF m 12 #[.val (.int p0), .val (.int p1), .val (.int p2), .val (.int p3), .unset, .unset, .unset, .unset, .unset, .unset, .unset, .unset, .unset, .unset, .unset, .unset] [(.int (57 : Int32)), (.int (1 : Int32)), (.ref b571), (.ref b571)])) rfl rfl (hb hby at_12)
  rw [show nar .char (57 : Int32) = (57 : Int32) from by decide] at W581
  have N581 := Fr.snoc X581 N576 g_b571
  have V581 := Arv.set Ar579 q579 S579 M579 H579 Gf579 rfl W581 1 rfl (Nat.le_of_ble_eq_true rfl)
  have V581' : Arv Z h581 b571 k571 .char (4 : Int32) [(.int (81 : Int32)), (.int (57 : Int32)), (.int (0 : Int32)), (.int (0 : Int32))] (.int (0 : Int32)) := by exact V581
  have G582 : Go p e below A0 (T581.setTop (mkF m 13 #[.val (.int p0), .val (.int p1), .val (.int p2), .val (.int p3), .unset, .unset, .unset, .unset, .unset, .unset, .unset, .unset, .unset, .unset, .unset, .unset] [(.ref b571)])) := fun tq kq => G578 tq (st581 _ kq)
  have G583 : Go p e below A0 (T581.setTop (mkF m 17 #[.val (.int p0), .val (.int p1), .val (.int p2), .val (.int p3), .unset, .unset, .unset, .unset, .unset, .unset, .unset, .unset, .unset, .unset, .unset, .unset] [(.int (122 : Int32)), (.int (2 : Int32)), (.ref b571), (.ref b571)])) := fun tq kq => G582 tq (by
    refine XS.dup X581.here hx rfl (hb hby at_13) rfl rfl ?_
    show Steps p.tables e below (T581.setTop (mkF m 14 #[.val (.int p0), .val (.int p1), .val (.int p2), .val (.int p3), .unset, .unset, .unset, .unset, .unset, .unset, .unset, .unset, .unset, .unset, .unset, .unset] [(.ref b571), (.ref b571)])) _
    refine XS.iconst X581.here hx rfl (hb hby at_14) ?_
    show Steps p.tables e below (T581.setTop (mkF m 15 #[.val (.int p0), .val (.int p1), .val (.int p2), .val (.int p3), .unset, .unset, .unset, .unset, .unset, .unset, .unset, .unset, .unset, .unset, .unset, .unset] [(.int (2 : Int32)), (.ref b571), (.ref b571)])) _
    refine XS.bipush X581.here hx rfl (hb hby at_15) ?_
    show Steps p.tables e below (T581.setTop (mkF m 17 #[.val (.int p0), .val (.int p1), .val (.int p2), .val (.int p3), .unset, .unset, .unset, .unset, .unset, .unset, .unset, .unset, .unset, .unset, .unset, .unset] [(.int (122 : Int32)), (.int (2 : Int32)), (.ref b571), (.ref b571)])) _
    exact kq)
  obtain ⟨cl584, Ar584, q584, S584, M584, H584, Gf584⟩ := id V581'
  have hi585 : ¬ ((2 : Int32) < 0 ∨ cl584.slots.size ≤ ((2 : Int32)).toNatClampNeg) := (inb_of S584 ⟨by decide, by decide⟩)
  obtain ⟨T586, h586, X586, e586, W586, st586⟩ := stC X581 hx hZ e581 Ar584 (j := (2 : Int32)) hi585 (g := (mkF m 17 #[.val (.int p0), .val (.int p1), .val (.int p2), .val (.int p3), .unset, .unset, .unset, .unset, .unset, .unset, .unset, .unset, .unset, .unset, .unset, .unset] [(.int (122 : Int32)), (.int (2 : Int32)), (.ref b571), (.ref b571)])) rfl rfl (hb hby at_17)
  rw [show nar .char (122 : Int32) = (122 : Int32) from by decide] at W586
  have N586 := Fr.snoc X586 N581 g_b571
  have V586 := Arv.set Ar584 q584 S584 M584 H584 Gf584 rfl W586 2 rfl (Nat.le_of_ble_eq_true rfl)
  have V586' : Arv Z h586 b571 k571 .char (4 : Int32) [(.int (81 : Int32)), (.int (57 : Int32)), (.int (122 : Int32)), (.int (0 : Int32))] (.int (0 : Int32)) := by exact V586
  have G587 : Go p e below A0 (T586.setTop (mkF m 18 #[.val (.int p0), .val (.int p1), .val (.int p2), .val (.int p3), .unset, .unset, .unset, .unset, .unset, .unset, .unset, .unset, .unset, .unset, .unset, .unset] [(.ref b571)])) := fun tq kq => G583 tq (st586 _ kq)
  have G588 : Go p e below A0 (T586.setTop (mkF m 22 #[.val (.int p0), .val (.int p1), .val (.int p2), .val (.int p3), .unset, .unset, .unset, .unset, .unset, .unset, .unset, .unset, .unset, .unset, .unset, .unset] [(.int (90 : Int32)), (.int (3 : Int32)), (.ref b571), (.ref b571)])) := fun tq kq => G587 tq (by
    refine XS.dup X586.here hx rfl (hb hby at_18) rfl rfl ?_
    show Steps p.tables e below (T586.setTop (mkF m 19 #[.val (.int p0), .val (.int p1), .val (.int p2), .val (.int p3), .unset, .unset, .unset, .unset, .unset, .unset, .unset, .unset, .unset, .unset, .unset, .unset] [(.ref b571), (.ref b571)])) _
    refine XS.iconst X586.here hx rfl (hb hby at_19) ?_
    show Steps p.tables e below (T586.setTop (mkF m 20 #[.val (.int p0), .val (.int p1), .val (.int p2), .val (.int p3), .unset, .unset, .unset, .unset, .unset, .unset, .unset, .unset, .unset, .unset, .unset, .unset] [(.int (3 : Int32)), (.ref b571), (.ref b571)])) _
    refine XS.bipush X586.here hx rfl (hb hby at_20) ?_
    show Steps p.tables e below (T586.setTop (mkF m 22 #[.val (.int p0), .val (.int p1), .val (.int p2), .val (.int p3), .unset, .unset, .unset, .unset, .unset, .unset, .unset, .unset, .unset, .unset, .unset, .unset] [(.int (90 : Int32)), (.int (3 : Int32)), (.ref b571), (.ref b571)])) _
    exact kq)
  obtain ⟨cl589, Ar589, q589, S589, M589, H589, Gf589⟩ := id V586'
  have hi590 : ¬ ((3 : Int32) < 0 ∨ cl589.slots.size ≤ ((3 : Int32)).toNatClampNeg) := (inb_of S589 ⟨by decide, by decide⟩)
  obtain ⟨T591, h591, X591, e591, W591, st591⟩ := stC X586 hx hZ e586 Ar589 (j := (3 : Int32)) hi590 (g := (mkF m 22 #[.val (.int p0), .val (.int p1), .val (.int p2), .val (.int p3), .unset, .unset, .unset, .unset, .unset, .unset, .unset, .unset, .unset, .unset, .unset, .unset] [(.int (90 : Int32)), (.int (3 : Int32)), (.ref b571), (.ref b571)])) rfl rfl (hb hby at_22)
  rw [show nar .char (90 : Int32) = (90 : Int32) from by decide] at W591
  have N591 := Fr.snoc X591 N586 g_b571
  have V591 := Arv.set Ar589 q589 S589 M589 H589 Gf589 rfl W591 3 rfl (Nat.le_of_ble_eq_true rfl)
  have V591' : Arv Z h591 b571 k571 .char (4 : Int32) [(.int (81 : Int32)), (.int (57 : Int32)), (.int (122 : Int32)), (.int (90 : Int32))] (.int (0 : Int32)) := by exact V591
  have G592 : Go p e below A0 (T591.setTop (mkF m 23 #[.val (.int p0), .val (.int p1), .val (.int p2), .val (.int p3), .unset, .unset, .unset, .unset, .unset, .unset, .unset, .unset, .unset, .unset, .unset, .unset] [(.ref b571)])) := fun tq kq => G588 tq (st591 _ kq)
  have Apre : Af Z h591 b571 k571 .char (4 : Int32) (fun i => .int (own_pre i)) := (Af.of V591').fn own_lpre
  have G593 : Go p e below A0 (T591.setTop (mkF m 26 #[.val (.int p0), .val (.int p1), .val (.int p2), .val (.int p3), .val (.ref b571), .unset, .unset, .unset, .unset, .unset, .unset, .unset, .unset, .unset, .unset, .unset] [(.int (3 : Int32))])) := fun tq kq => G592 tq (by
    refine XS.astore X591.here hx rfl (hb hby at_23) rfl rfl (l' := #[.val (.int p0), .val (.int p1), .val (.int p2), .val (.int p3), .val (.ref b571), .unset, .unset, .unset, .unset, .unset, .unset, .unset, .unset, .unset, .unset, .unset]) rfl ?_
    show Steps p.tables e below (T591.setTop (mkF m 25 #[.val (.int p0), .val (.int p1), .val (.int p2), .val (.int p3), .val (.ref b571), .unset, .unset, .unset, .unset, .unset, .unset, .unset, .unset, .unset, .unset, .unset] [])) _
    refine XS.iconst X591.here hx rfl (hb hby at_25) ?_
    show Steps p.tables e below (T591.setTop (mkF m 26 #[.val (.int p0), .val (.int p1), .val (.int p2), .val (.int p3), .val (.ref b571), .unset, .unset, .unset, .unset, .unset, .unset, .unset, .unset, .unset, .unset, .unset] [(.int (3 : Int32))])) _
    exact kq)
  have f595 := (Nat.le_trans (Nat.le_trans (Nat.le_trans (Nat.le_trans (Nat.le_trans Z0 E571.1) (Keep.of_wr W576).1) (Keep.of_wr W581).1) (Keep.of_wr W586).1) (Keep.of_wr W591).1)
  obtain ⟨T594, h594, k594, X594, e594, E594, A594, st594⟩ := newP X591 hx hZ (hw _ (List.mem_of_getElem? (i := 0) rfl)) e591 (g := (mkF m 26 #[.val (.int p0), .val (.int p1), .val (.int p2), .val (.int p3), .val (.ref b571), .unset, .unset, .unset, .unset, .unset, .unset, .unset, .unset, .unset, .unset, .unset] [(.int (3 : Int32))])) rfl (hb hby at_26) rfl (by decide) (cap := 3) (by decide) (by decide) (by decide) (by decide)
  obtain ⟨b594, g594⟩ : ∃ z, z = h591.size := ⟨_, rfl⟩
  rw [← g594] at A594 st594
  have f596 := (Nat.le_trans (Nat.le_trans (Nat.le_trans (Nat.le_trans (Nat.le_trans (Nat.le_refl h0.size) E571.1) (Keep.of_wr W576).1) (Keep.of_wr W581).1) (Keep.of_wr W586).1) (Keep.of_wr W591).1)
  have sz_b594 : h0.size ≤ b594 := Nat.le_trans f596 (Nat.le_of_eq g594.symm)
  have g_b594 : n0 ≤ b594 := Nat.le_trans f595 (Nat.le_of_eq g594.symm)
  have lt_b571_b594 : b571 < b594 := Nat.lt_of_lt_of_le Apre.lt (Nat.le_of_eq g594.symm)
  have V594 : Arv Z h594 b594 k594 .char (3 : Int32) [(.int (0 : Int32)), (.int (0 : Int32)), (.int (0 : Int32))] (.int (0 : Int32)) := (Arv.new A594 (by decide)).pad (pad_rep [] (.int (0 : Int32)) 3)
  have G597 : Go p e below A0 (T594.setTop (mkF m 28 #[.val (.int p0), .val (.int p1), .val (.int p2), .val (.int p3), .val (.ref b571), .unset, .unset, .unset, .unset, .unset, .unset, .unset, .unset, .unset, .unset, .unset] [(.ref b594)])) := fun tq kq => G593 tq (st594 _ kq)
  have G598 : Go p e below A0 (T594.setTop (mkF m 38 #[.val (.int p0), .val (.int p1), .val (.int p2), .val (.int p3), .val (.ref b571), .val (.ref b594), .unset, .unset, .unset, .unset, .unset, .unset, .unset, .unset, .unset, .unset] [(.int (p0 &&& (127 : Int32))), (.int (0 : Int32)), (.ref b594)])) := fun tq kq => G597 tq (by
    refine XS.astore X594.here hx rfl (hb hby at_28) rfl rfl (l' := #[.val (.int p0), .val (.int p1), .val (.int p2), .val (.int p3), .val (.ref b571), .val (.ref b594), .unset, .unset, .unset, .unset, .unset, .unset, .unset, .unset, .unset, .unset]) rfl ?_
    show Steps p.tables e below (T594.setTop (mkF m 30 #[.val (.int p0), .val (.int p1), .val (.int p2), .val (.int p3), .val (.ref b571), .val (.ref b594), .unset, .unset, .unset, .unset, .unset, .unset, .unset, .unset, .unset, .unset] [])) _
    refine XS.aload X594.here hx rfl (hb hby at_30) rfl rfl ?_
    show Steps p.tables e below (T594.setTop (mkF m 32 #[.val (.int p0), .val (.int p1), .val (.int p2), .val (.int p3), .val (.ref b571), .val (.ref b594), .unset, .unset, .unset, .unset, .unset, .unset, .unset, .unset, .unset, .unset] [(.ref b594)])) _
    refine XS.iconst X594.here hx rfl (hb hby at_32) ?_
    show Steps p.tables e below (T594.setTop (mkF m 33 #[.val (.int p0), .val (.int p1), .val (.int p2), .val (.int p3), .val (.ref b571), .val (.ref b594), .unset, .unset, .unset, .unset, .unset, .unset, .unset, .unset, .unset, .unset] [(.int (0 : Int32)), (.ref b594)])) _
    refine XS.iloadN X594.here hx rfl (hb hby at_33) rfl ?_
    show Steps p.tables e below (T594.setTop (mkF m 34 #[.val (.int p0), .val (.int p1), .val (.int p2), .val (.int p3), .val (.ref b571), .val (.ref b594), .unset, .unset, .unset, .unset, .unset, .unset, .unset, .unset, .unset, .unset] [(.int p0), (.int (0 : Int32)), (.ref b594)])) _
    refine XS.bipush X594.here hx rfl (hb hby at_34) ?_
    show Steps p.tables e below (T594.setTop (mkF m 36 #[.val (.int p0), .val (.int p1), .val (.int p2), .val (.int p3), .val (.ref b571), .val (.ref b594), .unset, .unset, .unset, .unset, .unset, .unset, .unset, .unset, .unset, .unset] [(.int (127 : Int32)), (.int p0), (.int (0 : Int32)), (.ref b594)])) _
    refine XS.iand X594.here hx rfl (hb hby at_36) rfl ?_
    show Steps p.tables e below (T594.setTop (mkF m 37 #[.val (.int p0), .val (.int p1), .val (.int p2), .val (.int p3), .val (.ref b571), .val (.ref b594), .unset, .unset, .unset, .unset, .unset, .unset, .unset, .unset, .unset, .unset] [(.int (p0 &&& (127 : Int32))), (.int (0 : Int32)), (.ref b594)])) _
    refine XS.i2c X594.here hx rfl (hb hby at_37) rfl ?_
    show Steps p.tables e below (T594.setTop (mkF m 38 #[.val (.int p0), .val (.int p1), .val (.int p2), .val (.int p3), .val (.ref b571), .val (.ref b594), .unset, .unset, .unset, .unset, .unset, .unset, .unset, .unset, .unset, .unset] [(.int (p0 &&& (127 : Int32)).toUInt32.toUInt16.toUInt32.toInt32), (.int (0 : Int32)), (.ref b594)])) _
    rw [show (p0 &&& (127 : Int32)).toUInt32.toUInt16.toUInt32.toInt32 = (p0 &&& (127 : Int32)) from own_i2c p0]
    show Steps p.tables e below (T594.setTop (mkF m 38 #[.val (.int p0), .val (.int p1), .val (.int p2), .val (.int p3), .val (.ref b571), .val (.ref b594), .unset, .unset, .unset, .unset, .unset, .unset, .unset, .unset, .unset, .unset] [(.int (p0 &&& (127 : Int32))), (.int (0 : Int32)), (.ref b594)])) _
    exact kq)
  obtain ⟨cl599, Ar599, q599, S599, M599, H599, Gf599⟩ := id V594
  have hi600 : ¬ ((0 : Int32) < 0 ∨ cl599.slots.size ≤ ((0 : Int32)).toNatClampNeg) := (inb_of S599 ⟨by decide, by decide⟩)
  obtain ⟨T601, h601, X601, e601, W601, st601⟩ := stC X594 hx hZ e594 Ar599 (j := (0 : Int32)) hi600 (g := (mkF m 38 #[.val (.int p0), .val (.int p1), .val (.int p2), .val (.int p3), .val (.ref b571), .val (.ref b594), .unset, .unset, .unset, .unset, .unset, .unset, .unset, .unset, .unset, .unset] [(.int (p0 &&& (127 : Int32))), (.int (0 : Int32)), (.ref b594)])) rfl rfl (hb hby at_38)
  rw [show nar .char (p0 &&& (127 : Int32)) = (p0 &&& (127 : Int32)) from own_ncC p0] at W601
  have N601 := Fr.snoc X601 N591 g_b594
  have V601 := Arv.set Ar599 q599 S599 M599 H599 Gf599 (own_fitC p0) W601 0 rfl (Nat.le_of_ble_eq_true rfl)
  have V601' : Arv Z h601 b594 k594 .char (3 : Int32) [(.int (p0 &&& (127 : Int32))), (.int (0 : Int32)), (.int (0 : Int32))] (.int (0 : Int32)) := by exact V601
  have G602 : Go p e below A0 (T601.setTop (mkF m 39 #[.val (.int p0), .val (.int p1), .val (.int p2), .val (.int p3), .val (.ref b571), .val (.ref b594), .unset, .unset, .unset, .unset, .unset, .unset, .unset, .unset, .unset, .unset] [])) := fun tq kq => G598 tq (st601 _ kq)
  have G603 : Go p e below A0 (T601.setTop (mkF m 47 #[.val (.int p0), .val (.int p1), .val (.int p2), .val (.int p3), .val (.ref b571), .val (.ref b594), .unset, .unset, .unset, .unset, .unset, .unset, .unset, .unset, .unset, .unset] [(.int (p1 &&& (127 : Int32))), (.int (1 : Int32)), (.ref b594)])) := fun tq kq => G602 tq (by
    refine XS.aload X601.here hx rfl (hb hby at_39) rfl rfl ?_
    show Steps p.tables e below (T601.setTop (mkF m 41 #[.val (.int p0), .val (.int p1), .val (.int p2), .val (.int p3), .val (.ref b571), .val (.ref b594), .unset, .unset, .unset, .unset, .unset, .unset, .unset, .unset, .unset, .unset] [(.ref b594)])) _
    refine XS.iconst X601.here hx rfl (hb hby at_41) ?_
    show Steps p.tables e below (T601.setTop (mkF m 42 #[.val (.int p0), .val (.int p1), .val (.int p2), .val (.int p3), .val (.ref b571), .val (.ref b594), .unset, .unset, .unset, .unset, .unset, .unset, .unset, .unset, .unset, .unset] [(.int (1 : Int32)), (.ref b594)])) _
    refine XS.iloadN X601.here hx rfl (hb hby at_42) rfl ?_
    show Steps p.tables e below (T601.setTop (mkF m 43 #[.val (.int p0), .val (.int p1), .val (.int p2), .val (.int p3), .val (.ref b571), .val (.ref b594), .unset, .unset, .unset, .unset, .unset, .unset, .unset, .unset, .unset, .unset] [(.int p1), (.int (1 : Int32)), (.ref b594)])) _
    refine XS.bipush X601.here hx rfl (hb hby at_43) ?_
    show Steps p.tables e below (T601.setTop (mkF m 45 #[.val (.int p0), .val (.int p1), .val (.int p2), .val (.int p3), .val (.ref b571), .val (.ref b594), .unset, .unset, .unset, .unset, .unset, .unset, .unset, .unset, .unset, .unset] [(.int (127 : Int32)), (.int p1), (.int (1 : Int32)), (.ref b594)])) _
    refine XS.iand X601.here hx rfl (hb hby at_45) rfl ?_
    show Steps p.tables e below (T601.setTop (mkF m 46 #[.val (.int p0), .val (.int p1), .val (.int p2), .val (.int p3), .val (.ref b571), .val (.ref b594), .unset, .unset, .unset, .unset, .unset, .unset, .unset, .unset, .unset, .unset] [(.int (p1 &&& (127 : Int32))), (.int (1 : Int32)), (.ref b594)])) _
    refine XS.i2c X601.here hx rfl (hb hby at_46) rfl ?_
    show Steps p.tables e below (T601.setTop (mkF m 47 #[.val (.int p0), .val (.int p1), .val (.int p2), .val (.int p3), .val (.ref b571), .val (.ref b594), .unset, .unset, .unset, .unset, .unset, .unset, .unset, .unset, .unset, .unset] [(.int (p1 &&& (127 : Int32)).toUInt32.toUInt16.toUInt32.toInt32), (.int (1 : Int32)), (.ref b594)])) _
    rw [show (p1 &&& (127 : Int32)).toUInt32.toUInt16.toUInt32.toInt32 = (p1 &&& (127 : Int32)) from own_i2c p1]
    show Steps p.tables e below (T601.setTop (mkF m 47 #[.val (.int p0), .val (.int p1), .val (.int p2), .val (.int p3), .val (.ref b571), .val (.ref b594), .unset, .unset, .unset, .unset, .unset, .unset, .unset, .unset, .unset, .unset] [(.int (p1 &&& (127 : Int32))), (.int (1 : Int32)), (.ref b594)])) _
    exact kq)
  obtain ⟨cl604, Ar604, q604, S604, M604, H604, Gf604⟩ := id V601'
  have hi605 : ¬ ((1 : Int32) < 0 ∨ cl604.slots.size ≤ ((1 : Int32)).toNatClampNeg) := (inb_of S604 ⟨by decide, by decide⟩)
  obtain ⟨T606, h606, X606, e606, W606, st606⟩ := stC X601 hx hZ e601 Ar604 (j := (1 : Int32)) hi605 (g := (mkF m 47 #[.val (.int p0), .val (.int p1), .val (.int p2), .val (.int p3), .val (.ref b571), .val (.ref b594), .unset, .unset, .unset, .unset, .unset, .unset, .unset, .unset, .unset, .unset] [(.int (p1 &&& (127 : Int32))), (.int (1 : Int32)), (.ref b594)])) rfl rfl (hb hby at_47)
  rw [show nar .char (p1 &&& (127 : Int32)) = (p1 &&& (127 : Int32)) from own_ncC p1] at W606
  have N606 := Fr.snoc X606 N601 g_b594
  have V606 := Arv.set Ar604 q604 S604 M604 H604 Gf604 (own_fitC p1) W606 1 rfl (Nat.le_of_ble_eq_true rfl)
  have V606' : Arv Z h606 b594 k594 .char (3 : Int32) [(.int (p0 &&& (127 : Int32))), (.int (p1 &&& (127 : Int32))), (.int (0 : Int32))] (.int (0 : Int32)) := by exact V606
  have G607 : Go p e below A0 (T606.setTop (mkF m 48 #[.val (.int p0), .val (.int p1), .val (.int p2), .val (.int p3), .val (.ref b571), .val (.ref b594), .unset, .unset, .unset, .unset, .unset, .unset, .unset, .unset, .unset, .unset] [])) := fun tq kq => G603 tq (st606 _ kq)
  have G608 : Go p e below A0 (T606.setTop (mkF m 56 #[.val (.int p0), .val (.int p1), .val (.int p2), .val (.int p3), .val (.ref b571), .val (.ref b594), .unset, .unset, .unset, .unset, .unset, .unset, .unset, .unset, .unset, .unset] [(.int (p2 &&& (127 : Int32))), (.int (2 : Int32)), (.ref b594)])) := fun tq kq => G607 tq (by
    refine XS.aload X606.here hx rfl (hb hby at_48) rfl rfl ?_
    show Steps p.tables e below (T606.setTop (mkF m 50 #[.val (.int p0), .val (.int p1), .val (.int p2), .val (.int p3), .val (.ref b571), .val (.ref b594), .unset, .unset, .unset, .unset, .unset, .unset, .unset, .unset, .unset, .unset] [(.ref b594)])) _
    refine XS.iconst X606.here hx rfl (hb hby at_50) ?_
    show Steps p.tables e below (T606.setTop (mkF m 51 #[.val (.int p0), .val (.int p1), .val (.int p2), .val (.int p3), .val (.ref b571), .val (.ref b594), .unset, .unset, .unset, .unset, .unset, .unset, .unset, .unset, .unset, .unset] [(.int (2 : Int32)), (.ref b594)])) _
    refine XS.iloadN X606.here hx rfl (hb hby at_51) rfl ?_
    show Steps p.tables e below (T606.setTop (mkF m 52 #[.val (.int p0), .val (.int p1), .val (.int p2), .val (.int p3), .val (.ref b571), .val (.ref b594), .unset, .unset, .unset, .unset, .unset, .unset, .unset, .unset, .unset, .unset] [(.int p2), (.int (2 : Int32)), (.ref b594)])) _
    refine XS.bipush X606.here hx rfl (hb hby at_52) ?_
    show Steps p.tables e below (T606.setTop (mkF m 54 #[.val (.int p0), .val (.int p1), .val (.int p2), .val (.int p3), .val (.ref b571), .val (.ref b594), .unset, .unset, .unset, .unset, .unset, .unset, .unset, .unset, .unset, .unset] [(.int (127 : Int32)), (.int p2), (.int (2 : Int32)), (.ref b594)])) _
    refine XS.iand X606.here hx rfl (hb hby at_54) rfl ?_
    show Steps p.tables e below (T606.setTop (mkF m 55 #[.val (.int p0), .val (.int p1), .val (.int p2), .val (.int p3), .val (.ref b571), .val (.ref b594), .unset, .unset, .unset, .unset, .unset, .unset, .unset, .unset, .unset, .unset] [(.int (p2 &&& (127 : Int32))), (.int (2 : Int32)), (.ref b594)])) _
    refine XS.i2c X606.here hx rfl (hb hby at_55) rfl ?_
    show Steps p.tables e below (T606.setTop (mkF m 56 #[.val (.int p0), .val (.int p1), .val (.int p2), .val (.int p3), .val (.ref b571), .val (.ref b594), .unset, .unset, .unset, .unset, .unset, .unset, .unset, .unset, .unset, .unset] [(.int (p2 &&& (127 : Int32)).toUInt32.toUInt16.toUInt32.toInt32), (.int (2 : Int32)), (.ref b594)])) _
    rw [show (p2 &&& (127 : Int32)).toUInt32.toUInt16.toUInt32.toInt32 = (p2 &&& (127 : Int32)) from own_i2c p2]
    show Steps p.tables e below (T606.setTop (mkF m 56 #[.val (.int p0), .val (.int p1), .val (.int p2), .val (.int p3), .val (.ref b571), .val (.ref b594), .unset, .unset, .unset, .unset, .unset, .unset, .unset, .unset, .unset, .unset] [(.int (p2 &&& (127 : Int32))), (.int (2 : Int32)), (.ref b594)])) _
    exact kq)
  obtain ⟨cl609, Ar609, q609, S609, M609, H609, Gf609⟩ := id V606'
  have hi610 : ¬ ((2 : Int32) < 0 ∨ cl609.slots.size ≤ ((2 : Int32)).toNatClampNeg) := (inb_of S609 ⟨by decide, by decide⟩)
  obtain ⟨T611, h611, X611, e611, W611, st611⟩ := stC X606 hx hZ e606 Ar609 (j := (2 : Int32)) hi610 (g := (mkF m 56 #[.val (.int p0), .val (.int p1), .val (.int p2), .val (.int p3), .val (.ref b571), .val (.ref b594), .unset, .unset, .unset, .unset, .unset, .unset, .unset, .unset, .unset, .unset] [(.int (p2 &&& (127 : Int32))), (.int (2 : Int32)), (.ref b594)])) rfl rfl (hb hby at_56)
  rw [show nar .char (p2 &&& (127 : Int32)) = (p2 &&& (127 : Int32)) from own_ncC p2] at W611
  have N611 := Fr.snoc X611 N606 g_b594
  have V611 := Arv.set Ar609 q609 S609 M609 H609 Gf609 (own_fitC p2) W611 2 rfl (Nat.le_of_ble_eq_true rfl)
  have V611' : Arv Z h611 b594 k594 .char (3 : Int32) [(.int (p0 &&& (127 : Int32))), (.int (p1 &&& (127 : Int32))), (.int (p2 &&& (127 : Int32)))] (.int (0 : Int32)) := by exact V611
  have G612 : Go p e below A0 (T611.setTop (mkF m 57 #[.val (.int p0), .val (.int p1), .val (.int p2), .val (.int p3), .val (.ref b571), .val (.ref b594), .unset, .unset, .unset, .unset, .unset, .unset, .unset, .unset, .unset, .unset] [])) := fun tq kq => G608 tq (st611 _ kq)
  obtain ⟨tt, ett⟩ : ∃ q, q = own_tt p0 p1 p2 := ⟨_, rfl⟩
  have htt : ∀ i, i < (3 : Int32).toNatClampNeg → ¬ tt i < 0 ∧ tt i < (128 : Int32) := fun i _ => by rw [ett]; exact own_ttR p0 p1 p2 i
  have Att : Af Z h611 b594 k594 .char (3 : Int32) (fun i => .int (tt i)) := by rw [ett]; exact (Af.of V611').fn (own_ltt3 p0 p1 p2)
  have G613 : Go p e below A0 (T611.setTop (mkF m 73 #[.val (.int p0), .val (.int p1), .val (.int p2), .val (.int p3), .val (.ref b571), .val (.ref b594), .val (.int (p3 &&& (3 : Int32))), .val (.int (((p3.toUInt32 >>> ((2 : Int32) &&& 31).toUInt32).toInt32) &&& (3 : Int32))), .unset, .unset, .unset, .unset, .unset, .unset, .unset, .unset] [(.int (((p3.toUInt32 >>> ((2 : Int32) &&& 31).toUInt32).toInt32) &&& (3 : Int32))), (.int (p3 &&& (3 : Int32)))])) := fun tq kq => G612 tq (by
    refine XS.iloadN X611.here hx rfl (hb hby at_57) rfl ?_
    show Steps p.tables e below (T611.setTop (mkF m 58 #[.val (.int p0), .val (.int p1), .val (.int p2), .val (.int p3), .val (.ref b571), .val (.ref b594), .unset, .unset, .unset, .unset, .unset, .unset, .unset, .unset, .unset, .unset] [(.int p3)])) _
    refine XS.iconst X611.here hx rfl (hb hby at_58) ?_
    show Steps p.tables e below (T611.setTop (mkF m 59 #[.val (.int p0), .val (.int p1), .val (.int p2), .val (.int p3), .val (.ref b571), .val (.ref b594), .unset, .unset, .unset, .unset, .unset, .unset, .unset, .unset, .unset, .unset] [(.int (3 : Int32)), (.int p3)])) _
    refine XS.iand X611.here hx rfl (hb hby at_59) rfl ?_
    show Steps p.tables e below (T611.setTop (mkF m 60 #[.val (.int p0), .val (.int p1), .val (.int p2), .val (.int p3), .val (.ref b571), .val (.ref b594), .unset, .unset, .unset, .unset, .unset, .unset, .unset, .unset, .unset, .unset] [(.int (p3 &&& (3 : Int32)))])) _
    refine XS.istore X611.here hx rfl (hb hby at_60) rfl (l' := #[.val (.int p0), .val (.int p1), .val (.int p2), .val (.int p3), .val (.ref b571), .val (.ref b594), .val (.int (p3 &&& (3 : Int32))), .unset, .unset, .unset, .unset, .unset, .unset, .unset, .unset, .unset]) rfl ?_
    show Steps p.tables e below (T611.setTop (mkF m 62 #[.val (.int p0), .val (.int p1), .val (.int p2), .val (.int p3), .val (.ref b571), .val (.ref b594), .val (.int (p3 &&& (3 : Int32))), .unset, .unset, .unset, .unset, .unset, .unset, .unset, .unset, .unset] [])) _
    refine XS.iloadN X611.here hx rfl (hb hby at_62) rfl ?_
    show Steps p.tables e below (T611.setTop (mkF m 63 #[.val (.int p0), .val (.int p1), .val (.int p2), .val (.int p3), .val (.ref b571), .val (.ref b594), .val (.int (p3 &&& (3 : Int32))), .unset, .unset, .unset, .unset, .unset, .unset, .unset, .unset, .unset] [(.int p3)])) _
    refine XS.iconst X611.here hx rfl (hb hby at_63) ?_
    show Steps p.tables e below (T611.setTop (mkF m 64 #[.val (.int p0), .val (.int p1), .val (.int p2), .val (.int p3), .val (.ref b571), .val (.ref b594), .val (.int (p3 &&& (3 : Int32))), .unset, .unset, .unset, .unset, .unset, .unset, .unset, .unset, .unset] [(.int (2 : Int32)), (.int p3)])) _
    refine XS.iushr X611.here hx rfl (hb hby at_64) rfl ?_
    show Steps p.tables e below (T611.setTop (mkF m 65 #[.val (.int p0), .val (.int p1), .val (.int p2), .val (.int p3), .val (.ref b571), .val (.ref b594), .val (.int (p3 &&& (3 : Int32))), .unset, .unset, .unset, .unset, .unset, .unset, .unset, .unset, .unset] [(.int ((p3.toUInt32 >>> ((2 : Int32) &&& 31).toUInt32).toInt32))])) _
    refine XS.iconst X611.here hx rfl (hb hby at_65) ?_
    show Steps p.tables e below (T611.setTop (mkF m 66 #[.val (.int p0), .val (.int p1), .val (.int p2), .val (.int p3), .val (.ref b571), .val (.ref b594), .val (.int (p3 &&& (3 : Int32))), .unset, .unset, .unset, .unset, .unset, .unset, .unset, .unset, .unset] [(.int (3 : Int32)), (.int ((p3.toUInt32 >>> ((2 : Int32) &&& 31).toUInt32).toInt32))])) _
    refine XS.iand X611.here hx rfl (hb hby at_66) rfl ?_
    show Steps p.tables e below (T611.setTop (mkF m 67 #[.val (.int p0), .val (.int p1), .val (.int p2), .val (.int p3), .val (.ref b571), .val (.ref b594), .val (.int (p3 &&& (3 : Int32))), .unset, .unset, .unset, .unset, .unset, .unset, .unset, .unset, .unset] [(.int (((p3.toUInt32 >>> ((2 : Int32) &&& 31).toUInt32).toInt32) &&& (3 : Int32)))])) _
    refine XS.istore X611.here hx rfl (hb hby at_67) rfl (l' := #[.val (.int p0), .val (.int p1), .val (.int p2), .val (.int p3), .val (.ref b571), .val (.ref b594), .val (.int (p3 &&& (3 : Int32))), .val (.int (((p3.toUInt32 >>> ((2 : Int32) &&& 31).toUInt32).toInt32) &&& (3 : Int32))), .unset, .unset, .unset, .unset, .unset, .unset, .unset, .unset]) rfl ?_
    show Steps p.tables e below (T611.setTop (mkF m 69 #[.val (.int p0), .val (.int p1), .val (.int p2), .val (.int p3), .val (.ref b571), .val (.ref b594), .val (.int (p3 &&& (3 : Int32))), .val (.int (((p3.toUInt32 >>> ((2 : Int32) &&& 31).toUInt32).toInt32) &&& (3 : Int32))), .unset, .unset, .unset, .unset, .unset, .unset, .unset, .unset] [])) _
    refine XS.iload X611.here hx rfl (hb hby at_69) rfl ?_
    show Steps p.tables e below (T611.setTop (mkF m 71 #[.val (.int p0), .val (.int p1), .val (.int p2), .val (.int p3), .val (.ref b571), .val (.ref b594), .val (.int (p3 &&& (3 : Int32))), .val (.int (((p3.toUInt32 >>> ((2 : Int32) &&& 31).toUInt32).toInt32) &&& (3 : Int32))), .unset, .unset, .unset, .unset, .unset, .unset, .unset, .unset] [(.int (p3 &&& (3 : Int32)))])) _
    refine XS.iload X611.here hx rfl (hb hby at_71) rfl ?_
    show Steps p.tables e below (T611.setTop (mkF m 73 #[.val (.int p0), .val (.int p1), .val (.int p2), .val (.int p3), .val (.ref b571), .val (.ref b594), .val (.int (p3 &&& (3 : Int32))), .val (.int (((p3.toUInt32 >>> ((2 : Int32) &&& 31).toUInt32).toInt32) &&& (3 : Int32))), .unset, .unset, .unset, .unset, .unset, .unset, .unset, .unset] [(.int (((p3.toUInt32 >>> ((2 : Int32) &&& 31).toUInt32).toInt32) &&& (3 : Int32))), (.int (p3 &&& (3 : Int32)))])) _
    exact kq)
  obtain ⟨ff, h_ff⟩ : ∃ q, q = own_mn (p3 &&& (3 : Int32)) (((p3.toUInt32 >>> ((2 : Int32) &&& 31).toUInt32).toInt32) &&& (3 : Int32)) := ⟨_, rfl⟩
  have f615 := (Nat.le_trans (Nat.le_trans (Nat.le_trans (Nat.le_trans f595 E594.1) (Keep.of_wr W601).1) (Keep.of_wr W606).1) (Keep.of_wr W611).1)
  obtain ⟨_, _, ⟨T614, L614, k614, n614⟩, -, X614, ⟨Lc614, hQ614, l614, y614, z614⟩, st614⟩ := Jvm.LawKit.callS X611 hx (y := (⟨"java/lang/Math", "min", "(II)I"⟩ : MethodName)) hown (mvT hZ (hw _ (List.mem_of_getElem? (i := 1) rfl))) (mvT hZ (hw _ (List.mem_of_getElem? (i := 2) rfl))) (mvT hZ (hw _ (List.mem_of_getElem? (i := 3) rfl))) (mvT hZ (hw _ (List.mem_of_getElem? (i := 4) rfl))) (by decide) (backOf (W := 0) (rmMN l Z a0 hw [] (p3 &&& (3 : Int32)) (((p3.toUInt32 >>> ((2 : Int32) &&& 31).toUInt32).toInt32) &&& (3 : Int32)) ff h611 n0 f615 h_ff) hZ (hw _ (List.mem_of_getElem? (i := 4) rfl)) (hw _ (List.mem_of_getElem? (i := 3) rfl)) (by decide) (by decide)) (g := (mkF m 73 #[.val (.int p0), .val (.int p1), .val (.int p2), .val (.int p3), .val (.ref b571), .val (.ref b594), .val (.int (p3 &&& (3 : Int32))), .val (.int (((p3.toUInt32 >>> ((2 : Int32) &&& 31).toUInt32).toInt32) &&& (3 : Int32))), .unset, .unset, .unset, .unset, .unset, .unset, .unset, .unset] [(.int (((p3.toUInt32 >>> ((2 : Int32) &&& 31).toUInt32).toInt32) &&& (3 : Int32))), (.int (p3 &&& (3 : Int32)))])) rfl (by rw [hml]; rfl) (argsL := [(.int (p3 &&& (3 : Int32))), (.int (((p3.toUInt32 >>> ((2 : Int32) &&& 31).toUInt32).toInt32) &&& (3 : Int32)))]) (rest := []) (lenOf pd_1 rfl) rfl (by show 2 * 0 + _ ≤ _; exact Nat.le_of_eq rfl) (hb hby at_73) (fun _ _ => ⟨rfl, e611, (by decide : 2 + 0 ≤ _), (by decide : 7 + 0 ≤ _)⟩)
  dsimp only [Pt.U, Pt.locs, Pt.cells, Pt.slots] at X614 l614 y614 z614 st614 hQ614
  obtain rfl : k614 = 2 := y614
  obtain rfl : n614 = 7 := z614
  obtain ⟨rfl, N614q, e614⟩ := hQ614
  have N614 : Fr n0 L614 := by rw [l614]; exact Fr.app N611 N614q
  have G616 : Go p e below A0 (T614.setTop (mkF m 76 #[.val (.int p0), .val (.int p1), .val (.int p2), .val (.int p3), .val (.ref b571), .val (.ref b594), .val (.int (p3 &&& (3 : Int32))), .val (.int (((p3.toUInt32 >>> ((2 : Int32) &&& 31).toUInt32).toInt32) &&& (3 : Int32))), .unset, .unset, .unset, .unset, .unset, .unset, .unset, .unset] [(.int ff)])) := fun tq kq => G613 tq (st614 _ kq)
  have G617 : Go p e below A0 (T614.setTop (mkF m 82 #[.val (.int p0), .val (.int p1), .val (.int p2), .val (.int p3), .val (.ref b571), .val (.ref b594), .val (.int (p3 &&& (3 : Int32))), .val (.int (((p3.toUInt32 >>> ((2 : Int32) &&& 31).toUInt32).toInt32) &&& (3 : Int32))), .val (.int ff), .unset, .unset, .unset, .unset, .unset, .unset, .unset] [(.int (((p3.toUInt32 >>> ((2 : Int32) &&& 31).toUInt32).toInt32) &&& (3 : Int32))), (.int (p3 &&& (3 : Int32)))])) := fun tq kq => G616 tq (by
    refine XS.istore X614.here hx rfl (hb hby at_76) rfl (l' := #[.val (.int p0), .val (.int p1), .val (.int p2), .val (.int p3), .val (.ref b571), .val (.ref b594), .val (.int (p3 &&& (3 : Int32))), .val (.int (((p3.toUInt32 >>> ((2 : Int32) &&& 31).toUInt32).toInt32) &&& (3 : Int32))), .val (.int ff), .unset, .unset, .unset, .unset, .unset, .unset, .unset]) rfl ?_
    show Steps p.tables e below (T614.setTop (mkF m 78 #[.val (.int p0), .val (.int p1), .val (.int p2), .val (.int p3), .val (.ref b571), .val (.ref b594), .val (.int (p3 &&& (3 : Int32))), .val (.int (((p3.toUInt32 >>> ((2 : Int32) &&& 31).toUInt32).toInt32) &&& (3 : Int32))), .val (.int ff), .unset, .unset, .unset, .unset, .unset, .unset, .unset] [])) _
    refine XS.iload X614.here hx rfl (hb hby at_78) rfl ?_
    show Steps p.tables e below (T614.setTop (mkF m 80 #[.val (.int p0), .val (.int p1), .val (.int p2), .val (.int p3), .val (.ref b571), .val (.ref b594), .val (.int (p3 &&& (3 : Int32))), .val (.int (((p3.toUInt32 >>> ((2 : Int32) &&& 31).toUInt32).toInt32) &&& (3 : Int32))), .val (.int ff), .unset, .unset, .unset, .unset, .unset, .unset, .unset] [(.int (p3 &&& (3 : Int32)))])) _
    refine XS.iload X614.here hx rfl (hb hby at_80) rfl ?_
    show Steps p.tables e below (T614.setTop (mkF m 82 #[.val (.int p0), .val (.int p1), .val (.int p2), .val (.int p3), .val (.ref b571), .val (.ref b594), .val (.int (p3 &&& (3 : Int32))), .val (.int (((p3.toUInt32 >>> ((2 : Int32) &&& 31).toUInt32).toInt32) &&& (3 : Int32))), .val (.int ff), .unset, .unset, .unset, .unset, .unset, .unset, .unset] [(.int (((p3.toUInt32 >>> ((2 : Int32) &&& 31).toUInt32).toInt32) &&& (3 : Int32))), (.int (p3 &&& (3 : Int32)))])) _
    exact kq)
  obtain ⟨nn, h_nn⟩ : ∃ q, q = own_mx (p3 &&& (3 : Int32)) (((p3.toUInt32 >>> ((2 : Int32) &&& 31).toUInt32).toInt32) &&& (3 : Int32)) := ⟨_, rfl⟩
  obtain ⟨hz0, hfn0, hn3⟩ := own_mm (own_a3 _) (own_a3 _) h_ff h_nn
  obtain ⟨_, _, ⟨T618, L618, k618, n618⟩, -, X618, ⟨Lc618, hQ618, l618, y618, z618⟩, st618⟩ := Jvm.LawKit.callS X614 hx (y := (⟨"java/lang/Math", "max", "(II)I"⟩ : MethodName)) hown (mvT hZ (hw _ (List.mem_of_getElem? (i := 5) rfl))) (mvT hZ (hw _ (List.mem_of_getElem? (i := 6) rfl))) (mvT hZ (hw _ (List.mem_of_getElem? (i := 3) rfl))) (mvT hZ (hw _ (List.mem_of_getElem? (i := 7) rfl))) (by decide) (backOf (W := 0) (rmMX l Z a0 hw [] (p3 &&& (3 : Int32)) (((p3.toUInt32 >>> ((2 : Int32) &&& 31).toUInt32).toInt32) &&& (3 : Int32)) nn h611 n0 f615 h_nn) hZ (hw _ (List.mem_of_getElem? (i := 7) rfl)) (hw _ (List.mem_of_getElem? (i := 3) rfl)) (by decide) (by decide)) (g := (mkF m 82 #[.val (.int p0), .val (.int p1), .val (.int p2), .val (.int p3), .val (.ref b571), .val (.ref b594), .val (.int (p3 &&& (3 : Int32))), .val (.int (((p3.toUInt32 >>> ((2 : Int32) &&& 31).toUInt32).toInt32) &&& (3 : Int32))), .val (.int ff), .unset, .unset, .unset, .unset, .unset, .unset, .unset] [(.int (((p3.toUInt32 >>> ((2 : Int32) &&& 31).toUInt32).toInt32) &&& (3 : Int32))), (.int (p3 &&& (3 : Int32)))])) rfl (by rw [hml]; rfl) (argsL := [(.int (p3 &&& (3 : Int32))), (.int (((p3.toUInt32 >>> ((2 : Int32) &&& 31).toUInt32).toInt32) &&& (3 : Int32)))]) (rest := []) (lenOf pd_1 rfl) rfl (by show 2 * 0 + _ ≤ _; exact Nat.le_of_eq rfl) (hb hby at_82) (fun _ _ => ⟨rfl, e614, (by decide : 2 + 0 ≤ _), (by decide : 7 + 0 ≤ _)⟩)
  dsimp only [Pt.U, Pt.locs, Pt.cells, Pt.slots] at X618 l618 y618 z618 st618 hQ618
  obtain rfl : k618 = 2 := y618
  obtain rfl : n618 = 7 := z618
  obtain ⟨rfl, N618q, e618⟩ := hQ618
  have N618 : Fr n0 L618 := by rw [l618]; exact Fr.app N614 N618q
  have G619 : Go p e below A0 (T618.setTop (mkF m 85 #[.val (.int p0), .val (.int p1), .val (.int p2), .val (.int p3), .val (.ref b571), .val (.ref b594), .val (.int (p3 &&& (3 : Int32))), .val (.int (((p3.toUInt32 >>> ((2 : Int32) &&& 31).toUInt32).toInt32) &&& (3 : Int32))), .val (.int ff), .unset, .unset, .unset, .unset, .unset, .unset, .unset] [(.int nn)])) := fun tq kq => G617 tq (st618 _ kq)
  have G620 : Go p e below A0 (T618.setTop (mkF m 87 #[.val (.int p0), .val (.int p1), .val (.int p2), .val (.int p3), .val (.ref b571), .val (.ref b594), .val (.int (p3 &&& (3 : Int32))), .val (.int (((p3.toUInt32 >>> ((2 : Int32) &&& 31).toUInt32).toInt32) &&& (3 : Int32))), .val (.int ff), .val (.int nn), .unset, .unset, .unset, .unset, .unset, .unset] [])) := fun tq kq => G619 tq (by
    refine XS.istore X618.here hx rfl (hb hby at_85) rfl (l' := #[.val (.int p0), .val (.int p1), .val (.int p2), .val (.int p3), .val (.ref b571), .val (.ref b594), .val (.int (p3 &&& (3 : Int32))), .val (.int (((p3.toUInt32 >>> ((2 : Int32) &&& 31).toUInt32).toInt32) &&& (3 : Int32))), .val (.int ff), .val (.int nn), .unset, .unset, .unset, .unset, .unset, .unset]) rfl ?_
    show Steps p.tables e below (T618.setTop (mkF m 87 #[.val (.int p0), .val (.int p1), .val (.int p2), .val (.int p3), .val (.ref b571), .val (.ref b594), .val (.int (p3 &&& (3 : Int32))), .val (.int (((p3.toUInt32 >>> ((2 : Int32) &&& 31).toUInt32).toInt32) &&& (3 : Int32))), .val (.int ff), .val (.int nn), .unset, .unset, .unset, .unset, .unset, .unset] [])) _
    exact kq)
  obtain ⟨T621, h621, X621, e621, E621, A621, D621, -, st621⟩ := newO X618 hx hZ hown (hw _ (List.mem_of_getElem? (i := 8) rfl)) (hw _ (List.mem_of_getElem? (i := 9) rfl)) (hw _ (List.mem_of_getElem? (i := 10) rfl)) e618 (g := (mkF m 87 #[.val (.int p0), .val (.int p1), .val (.int p2), .val (.int p3), .val (.ref b571), .val (.ref b594), .val (.int (p3 &&& (3 : Int32))), .val (.int (((p3.toUInt32 >>> ((2 : Int32) &&& 31).toUInt32).toInt32) &&& (3 : Int32))), .val (.int ff), .val (.int nn), .unset, .unset, .unset, .unset, .unset, .unset] [])) rfl (hb hby at_87) (by decide) (by decide)
  obtain ⟨b621, g621⟩ : ∃ z, z = h611.size := ⟨_, rfl⟩
  rw [← g621] at A621 D621 st621
  have f622 := (Nat.le_trans (Nat.le_trans (Nat.le_trans (Nat.le_trans f596 E594.1) (Keep.of_wr W601).1) (Keep.of_wr W606).1) (Keep.of_wr W611).1)
  have sz_b621 : h0.size ≤ b621 := Nat.le_trans f622 (Nat.le_of_eq g621.symm)
  have g_b621 : n0 ≤ b621 := Nat.le_trans f615 (Nat.le_of_eq g621.symm)
  have lt_b571_b621 : b571 < b621 := Nat.lt_of_lt_of_le ((((Apre.ext E594).other W601 (Nat.ne_of_lt lt_b571_b594)).other W606 (Nat.ne_of_lt lt_b571_b594)).other W611 (Nat.ne_of_lt lt_b571_b594)).lt (Nat.le_of_eq g621.symm)
  have lt_b594_b621 : b594 < b621 := Nat.lt_of_lt_of_le Att.lt (Nat.le_of_eq g621.symm)
  have F621_word : Fld Z h621 b621 "com/example/subtree/subtree/index/PlainWords" "word" "[B" .null := D621 (Or.inl (hw _ (List.mem_of_getElem? (i := 19) rfl))) (ty := (.array .byte)) (by decide)
  have F621_text : Fld Z h621 b621 "com/example/subtree/subtree/index/PlainWords" "text" "[C" .null := D621 (Or.inl (hw _ (List.mem_of_getElem? (i := 26) rfl))) (ty := (.array .char)) (by decide)
  have F621_at : Fld Z h621 b621 "com/example/subtree/subtree/index/PlainWords" "at" "I" (.int (0 : Int32)) := D621 (Or.inl (hw _ (List.mem_of_getElem? (i := 28) rfl))) (ty := .int) (by decide)
  have F621_to : Fld Z h621 b621 "com/example/subtree/subtree/index/PlainWords" "to" "I" (.int (0 : Int32)) := D621 (Or.inl (hw _ (List.mem_of_getElem? (i := 30) rfl))) (ty := .int) (by decide)
  have F621_length : Fld Z h621 b621 "com/example/subtree/subtree/index/PlainWords" "length" "I" (.int (0 : Int32)) := D621 (Or.inl (hw _ (List.mem_of_getElem? (i := 32) rfl))) (ty := .int) (by decide)
  have G623 : Go p e below A0 (T621.setTop (mkF m 90 #[.val (.int p0), .val (.int p1), .val (.int p2), .val (.int p3), .val (.ref b571), .val (.ref b594), .val (.int (p3 &&& (3 : Int32))), .val (.int (((p3.toUInt32 >>> ((2 : Int32) &&& 31).toUInt32).toInt32) &&& (3 : Int32))), .val (.int ff), .val (.int nn), .unset, .unset, .unset, .unset, .unset, .unset] [(.ref b621)])) := fun tq kq => G620 tq (st621 _ kq)
  have G624 : Go p e below A0 (T621.setTop (mkF m 91 #[.val (.int p0), .val (.int p1), .val (.int p2), .val (.int p3), .val (.ref b571), .val (.ref b594), .val (.int (p3 &&& (3 : Int32))), .val (.int (((p3.toUInt32 >>> ((2 : Int32) &&& 31).toUInt32).toInt32) &&& (3 : Int32))), .val (.int ff), .val (.int nn), .unset, .unset, .unset, .unset, .unset, .unset] [(.ref b621), (.ref b621)])) := fun tq kq => G623 tq (by
    refine XS.dup X621.here hx rfl (hb hby at_90) rfl rfl ?_
    show Steps p.tables e below (T621.setTop (mkF m 91 #[.val (.int p0), .val (.int p1), .val (.int p2), .val (.int p3), .val (.ref b571), .val (.ref b594), .val (.int (p3 &&& (3 : Int32))), .val (.int (((p3.toUInt32 >>> ((2 : Int32) &&& 31).toUInt32).toInt32) &&& (3 : Int32))), .val (.int ff), .val (.int nn), .unset, .unset, .unset, .unset, .unset, .unset] [(.ref b621), (.ref b621)])) _
    exact kq)
  have f626 := (Nat.le_trans f615 E621.1)
  have f627 := (Nat.le_trans f622 E621.1)
  obtain ⟨_, _, ⟨T625, L625, k625, n625⟩, -, X625, ⟨Lc625, hQ625, l625, y625, z625⟩, st625⟩ := X621.specialBack hx (y := (⟨"com/example/subtree/subtree/index/PlainWords", "<init>", "()V"⟩ : MethodName)) rfl hown (mvT hZ (hw _ (List.mem_of_getElem? (i := 11) rfl))) (mvT hZ (hw _ (List.mem_of_getElem? (i := 12) rfl))) (mvT hZ (hw _ (List.mem_of_getElem? (i := 13) rfl))) (by decide) (backOf (W := 1) (rmI l Z a0 hw [] b621 h621 n0 f626 A621 g_b621 F621_text F621_at F621_to F621_length F621_word) hZ (hw _ (List.mem_of_getElem? (i := 13) rfl)) (hw _ (List.mem_of_getElem? (i := 10) rfl)) (by decide) (by decide)) (g := (mkF m 91 #[.val (.int p0), .val (.int p1), .val (.int p2), .val (.int p3), .val (.ref b571), .val (.ref b594), .val (.int (p3 &&& (3 : Int32))), .val (.int (((p3.toUInt32 >>> ((2 : Int32) &&& 31).toUInt32).toInt32) &&& (3 : Int32))), .val (.int ff), .val (.int nn), .unset, .unset, .unset, .unset, .unset, .unset] [(.ref b621), (.ref b621)])) rfl (by rw [hml]; rfl) (Steps.refl _) (a := b621) (argsL := []) (rest := [(.ref b621)]) (lenOf pd_2 rfl) rfl (by show 2 * 0 + _ ≤ _; exact Nat.le_of_eq rfl) (hb hby at_91) (fun _ _ => ⟨rfl, e621, (by decide : 3 + 1 ≤ _), (by decide : 12 + 64 ≤ _)⟩)
  dsimp only [Pt.U, Pt.locs, Pt.cells, Pt.slots] at X625 l625 y625 z625 st625 hQ625
  obtain rfl : k625 = 4 := y625
  obtain rfl : n625 = 76 := z625
  obtain ⟨wb, kw, rfl, N625q, K625, hs625, hg625, Fx625_0, Fx625_1, Fx625_2, Fx625_3, Fx625_4, Aw625⟩ := hQ625
  have N625 : Fr n0 L625 := by rw [l625]; exact Fr.app N618 N625q
  have lt_b571_wb : b571 < wb := Nat.lt_of_lt_of_le (((((Apre.ext E594).other W601 (Nat.ne_of_lt lt_b571_b594)).other W606 (Nat.ne_of_lt lt_b571_b594)).other W611 (Nat.ne_of_lt lt_b571_b594)).ext E621).lt hs625
  have lt_b594_wb : b594 < wb := Nat.lt_of_lt_of_le (Att.ext E621).lt hs625
  have lt_b621_wb : b621 < wb := Nat.lt_of_lt_of_le A621.lt hs625
  have G628 : Go p e below A0 (T625.setTop (mkF m 94 #[.val (.int p0), .val (.int p1), .val (.int p2), .val (.int p3), .val (.ref b571), .val (.ref b594), .val (.int (p3 &&& (3 : Int32))), .val (.int (((p3.toUInt32 >>> ((2 : Int32) &&& 31).toUInt32).toInt32) &&& (3 : Int32))), .val (.int ff), .val (.int nn), .unset, .unset, .unset, .unset, .unset, .unset] [(.ref b621)])) := fun tq kq => G624 tq (st625.trans kq)
  have G629 : Go p e below A0 (T625.setTop (mkF m 102 #[.val (.int p0), .val (.int p1), .val (.int p2), .val (.int p3), .val (.ref b571), .val (.ref b594), .val (.int (p3 &&& (3 : Int32))), .val (.int (((p3.toUInt32 >>> ((2 : Int32) &&& 31).toUInt32).toInt32) &&& (3 : Int32))), .val (.int ff), .val (.int nn), .val (.ref b621), .unset, .unset, .unset, .unset, .unset] [(.int (3 : Int32)), (.int (1 : Int32)), (.ref b571), (.ref b621)])) := fun tq kq => G628 tq (by
    refine XS.astore X625.here hx rfl (hb hby at_94) rfl rfl (l' := #[.val (.int p0), .val (.int p1), .val (.int p2), .val (.int p3), .val (.ref b571), .val (.ref b594), .val (.int (p3 &&& (3 : Int32))), .val (.int (((p3.toUInt32 >>> ((2 : Int32) &&& 31).toUInt32).toInt32) &&& (3 : Int32))), .val (.int ff), .val (.int nn), .val (.ref b621), .unset, .unset, .unset, .unset, .unset]) rfl ?_
    show Steps p.tables e below (T625.setTop (mkF m 96 #[.val (.int p0), .val (.int p1), .val (.int p2), .val (.int p3), .val (.ref b571), .val (.ref b594), .val (.int (p3 &&& (3 : Int32))), .val (.int (((p3.toUInt32 >>> ((2 : Int32) &&& 31).toUInt32).toInt32) &&& (3 : Int32))), .val (.int ff), .val (.int nn), .val (.ref b621), .unset, .unset, .unset, .unset, .unset] [])) _
    refine XS.aload X625.here hx rfl (hb hby at_96) rfl rfl ?_
    show Steps p.tables e below (T625.setTop (mkF m 98 #[.val (.int p0), .val (.int p1), .val (.int p2), .val (.int p3), .val (.ref b571), .val (.ref b594), .val (.int (p3 &&& (3 : Int32))), .val (.int (((p3.toUInt32 >>> ((2 : Int32) &&& 31).toUInt32).toInt32) &&& (3 : Int32))), .val (.int ff), .val (.int nn), .val (.ref b621), .unset, .unset, .unset, .unset, .unset] [(.ref b621)])) _
    refine XS.aload X625.here hx rfl (hb hby at_98) rfl rfl ?_
    show Steps p.tables e below (T625.setTop (mkF m 100 #[.val (.int p0), .val (.int p1), .val (.int p2), .val (.int p3), .val (.ref b571), .val (.ref b594), .val (.int (p3 &&& (3 : Int32))), .val (.int (((p3.toUInt32 >>> ((2 : Int32) &&& 31).toUInt32).toInt32) &&& (3 : Int32))), .val (.int ff), .val (.int nn), .val (.ref b621), .unset, .unset, .unset, .unset, .unset] [(.ref b571), (.ref b621)])) _
    refine XS.iconst X625.here hx rfl (hb hby at_100) ?_
    show Steps p.tables e below (T625.setTop (mkF m 101 #[.val (.int p0), .val (.int p1), .val (.int p2), .val (.int p3), .val (.ref b571), .val (.ref b594), .val (.int (p3 &&& (3 : Int32))), .val (.int (((p3.toUInt32 >>> ((2 : Int32) &&& 31).toUInt32).toInt32) &&& (3 : Int32))), .val (.int ff), .val (.int nn), .val (.ref b621), .unset, .unset, .unset, .unset, .unset] [(.int (1 : Int32)), (.ref b571), (.ref b621)])) _
    refine XS.iconst X625.here hx rfl (hb hby at_101) ?_
    show Steps p.tables e below (T625.setTop (mkF m 102 #[.val (.int p0), .val (.int p1), .val (.int p2), .val (.int p3), .val (.ref b571), .val (.ref b594), .val (.int (p3 &&& (3 : Int32))), .val (.int (((p3.toUInt32 >>> ((2 : Int32) &&& 31).toUInt32).toInt32) &&& (3 : Int32))), .val (.int ff), .val (.int nn), .val (.ref b621), .unset, .unset, .unset, .unset, .unset] [(.int (3 : Int32)), (.int (1 : Int32)), (.ref b571), (.ref b621)])) _
    exact kq)
  have f631 := (Nat.le_trans f626 K625.1)
  have f632 := (A621.keep K625)
  obtain ⟨cq630, kq630, q630a, q630b, q630c⟩ := isOf hZ rfl f632
  obtain ⟨_, _, ⟨T630, L630, k630, n630⟩, -, X630, ⟨Lc630, hQ630, l630, y630, z630⟩, st630⟩ := X625.virtualBack hx (y := (⟨"com/example/subtree/subtree/index/PlainWords", "reset", "([CII)V"⟩ : MethodName)) (z := (⟨"com/example/subtree/subtree/index/PlainWords", "reset", "([CII)V"⟩ : MethodName)) hown (mvT hZ (hw _ (List.mem_of_getElem? (i := 20) rfl))) (mvT hZ (hw _ (List.mem_of_getElem? (i := 21) rfl))) (notFace_of_selects (args := #[]) (mvT hZ (hw _ (List.mem_of_getElem? (i := 23) rfl)))) (mvT hZ (hw _ (List.mem_of_getElem? (i := 23) rfl))) (mvT hZ (hw _ (List.mem_of_getElem? (i := 22) rfl))) (by decide) (backOf (W := 0) (rmR l Z a0 hw [] b621 b571 wb (1 : Int32) (3 : Int32) (0 : Int32) (0 : Int32) (0 : Int32) .null T625.heap n0 f631 f632 g_b621 Fx625_0 Fx625_1 Fx625_2 Fx625_3 Fx625_4) hZ (hw _ (List.mem_of_getElem? (i := 24) rfl)) (hw _ (List.mem_of_getElem? (i := 10) rfl)) (by decide) (by decide)) q630a q630c (g := (mkF m 102 #[.val (.int p0), .val (.int p1), .val (.int p2), .val (.int p3), .val (.ref b571), .val (.ref b594), .val (.int (p3 &&& (3 : Int32))), .val (.int (((p3.toUInt32 >>> ((2 : Int32) &&& 31).toUInt32).toInt32) &&& (3 : Int32))), .val (.int ff), .val (.int nn), .val (.ref b621), .unset, .unset, .unset, .unset, .unset] [(.int (3 : Int32)), (.int (1 : Int32)), (.ref b571), (.ref b621)])) rfl (by rw [hml]; rfl) (Steps.refl _) (argsL := [(.ref b571), (.int (1 : Int32)), (.int (3 : Int32))]) (rest := []) (lenOf pd_3 rfl) rfl (by show 2 * 0 + _ ≤ _; exact Nat.le_of_eq rfl) (hb hby at_102) (fun _ _ => ⟨rfl, rfl, (by decide : 4 + 0 ≤ _), (by decide : 76 + 0 ≤ _)⟩)
  dsimp only [Pt.U, Pt.locs, Pt.cells, Pt.slots] at X630 l630 y630 z630 st630 hQ630
  obtain rfl : k630 = 4 := y630
  obtain rfl : n630 = 76 := z630
  obtain ⟨rfl, N630q, K630, Fx630_0, Fx630_1, Fx630_2, Fx630_3, Fx630_4⟩ := hQ630
  have N630 : Fr n0 L630 := by rw [l630]; exact Fr.app N625 N630q
  have G633 : Go p e below A0 (T630.setTop (mkF m 105 #[.val (.int p0), .val (.int p1), .val (.int p2), .val (.int p3), .val (.ref b571), .val (.ref b594), .val (.int (p3 &&& (3 : Int32))), .val (.int (((p3.toUInt32 >>> ((2 : Int32) &&& 31).toUInt32).toInt32) &&& (3 : Int32))), .val (.int ff), .val (.int nn), .val (.ref b621), .unset, .unset, .unset, .unset, .unset] [])) := fun tq kq => G629 tq (st630.trans kq)
  have G634 : Go p e below A0 (T630.setTop (mkF m 107 #[.val (.int p0), .val (.int p1), .val (.int p2), .val (.int p3), .val (.ref b571), .val (.ref b594), .val (.int (p3 &&& (3 : Int32))), .val (.int (((p3.toUInt32 >>> ((2 : Int32) &&& 31).toUInt32).toInt32) &&& (3 : Int32))), .val (.int ff), .val (.int nn), .val (.ref b621), .unset, .unset, .unset, .unset, .unset] [(.ref b621)])) := fun tq kq => G633 tq (by
    refine XS.aload X630.here hx rfl (hb hby at_105) rfl rfl ?_
    show Steps p.tables e below (T630.setTop (mkF m 107 #[.val (.int p0), .val (.int p1), .val (.int p2), .val (.int p3), .val (.ref b571), .val (.ref b594), .val (.int (p3 &&& (3 : Int32))), .val (.int (((p3.toUInt32 >>> ((2 : Int32) &&& 31).toUInt32).toInt32) &&& (3 : Int32))), .val (.int ff), .val (.int nn), .val (.ref b621), .unset, .unset, .unset, .unset, .unset] [(.ref b621)])) _
    exact kq)
  have f636 := (Nat.le_trans f631 K630.1)
  have f637 := (f632.keep K630)
  have f638 := (((((((Apre.ext E594).other W601 (Nat.ne_of_lt lt_b571_b594)).other W606 (Nat.ne_of_lt lt_b571_b594)).other W611 (Nat.ne_of_lt lt_b571_b594)).ext E621).keep K625 (ninS (Nat.ne_of_lt lt_b571_b621) nin0)).keep K630 (ninS (Nat.ne_of_lt lt_b571_b621) nin0))
  have f639 := (Aw625.keep K630 (ninS (Ne.symm (Nat.ne_of_lt lt_b621_wb)) nin0))
  have f640 := ((((((((((((hold.ext E571).wr W576 g_b571).wr W581 g_b571).wr W586 g_b571).wr W591 g_b571).ext E594).wr W601 g_b594).wr W606 g_b594).wr W611 g_b594).ext E621).keep K625 (allS g_b621 all0)).keep K630 (allS g_b621 all0))
  obtain ⟨cq635, kq635, q635a, q635b, q635c⟩ := isOf hZ rfl f637
  obtain ⟨_, _, ⟨T635, L635, k635, n635⟩, -, X635, ⟨Lc635, hQ635, l635, y635, z635⟩, st635⟩ := X630.virtualBack hx (y := (⟨"com/example/subtree/subtree/index/PlainWords", "next", "()Z"⟩ : MethodName)) (z := (⟨"com/example/subtree/subtree/index/PlainWords", "next", "()Z"⟩ : MethodName)) hown (mvT hZ (hw _ (List.mem_of_getElem? (i := 33) rfl))) (mvT hZ (hw _ (List.mem_of_getElem? (i := 34) rfl))) (notFace_of_selects (args := #[]) (mvT hZ (hw _ (List.mem_of_getElem? (i := 36) rfl)))) (mvT hZ (hw _ (List.mem_of_getElem? (i := 36) rfl))) (mvT hZ (hw _ (List.mem_of_getElem? (i := 35) rfl))) (by decide) (backOf (W := 0) (rmX l Z a0 hw [] b621 b571 wb tb own_pre (fun _ => (0 : Int32)) (1 : Int32) (3 : Int32) (4 : Int32) (1 : Int32) (3 : Int32) k571 kw kb T630.heap n0 f636 f637 g_b621 hg625 (Nat.ne_of_lt lt_b621_wb) (Nat.ne_of_lt lt_b571_b621) (Nat.ne_of_lt lt_b571_wb) Fx630_0 Fx630_1 Fx630_2 Fx630_3 Fx630_4 f638 f639 f640 hSd hAd (by decide) (by decide) (by decide) (by decide) (fun i _ => own_preR i) (by decide +kernel) (by decide +kernel)) hZ (hw _ (List.mem_of_getElem? (i := 37) rfl)) (hw _ (List.mem_of_getElem? (i := 10) rfl)) (by decide) (by decide)) q635a q635c (g := (mkF m 107 #[.val (.int p0), .val (.int p1), .val (.int p2), .val (.int p3), .val (.ref b571), .val (.ref b594), .val (.int (p3 &&& (3 : Int32))), .val (.int (((p3.toUInt32 >>> ((2 : Int32) &&& 31).toUInt32).toInt32) &&& (3 : Int32))), .val (.int ff), .val (.int nn), .val (.ref b621), .unset, .unset, .unset, .unset, .unset] [(.ref b621)])) rfl (by rw [hml]; rfl) (Steps.refl _) (argsL := []) (rest := []) (lenOf pd_4 rfl) rfl (by show 2 * 0 + _ ≤ _; exact Nat.le_of_eq rfl) (hb hby at_107) (fun _ _ => ⟨rfl, rfl, (by decide : 4 + 0 ≤ _), (by decide : 76 + 0 ≤ _)⟩)
  dsimp only [Pt.U, Pt.locs, Pt.cells, Pt.slots] at X635 l635 y635 z635 st635 hQ635
  obtain rfl : k635 = 4 := y635
  obtain rfl : n635 = 76 := z635
  obtain ⟨gp635, rfl, N635q, K635, Fx635_0, Fx635_1, Fx635_2, Fx635_3, Fx635_4, Aw635, ct635⟩ := hQ635
  have N635 : Fr n0 L635 := by rw [l635]; exact Fr.app N630 N635q
  have G641 : Go p e below A0 (T635.setTop (mkF m 110 #[.val (.int p0), .val (.int p1), .val (.int p2), .val (.int p3), .val (.ref b571), .val (.ref b594), .val (.int (p3 &&& (3 : Int32))), .val (.int (((p3.toUInt32 >>> ((2 : Int32) &&& 31).toUInt32).toInt32) &&& (3 : Int32))), .val (.int ff), .val (.int nn), .val (.ref b621), .unset, .unset, .unset, .unset, .unset] [(.int (own_b (¬ (1 : Int32) = (3 : Int32))))])) := fun tq kq => G634 tq (st635.trans kq)
  have G642 : Go p e below A0 (T635.setTop (mkF m 119 #[.val (.int p0), .val (.int p1), .val (.int p2), .val (.int p3), .val (.ref b571), .val (.ref b594), .val (.int (p3 &&& (3 : Int32))), .val (.int (((p3.toUInt32 >>> ((2 : Int32) &&& 31).toUInt32).toInt32) &&& (3 : Int32))), .val (.int ff), .val (.int nn), .val (.ref b621), .val (.int (own_b (¬ (1 : Int32) = (3 : Int32)))), .unset, .unset, .unset, .unset] [(.ref b621)])) := fun tq kq => G641 tq (by
    refine XS.istore X635.here hx rfl (hb hby at_110) rfl (l' := #[.val (.int p0), .val (.int p1), .val (.int p2), .val (.int p3), .val (.ref b571), .val (.ref b594), .val (.int (p3 &&& (3 : Int32))), .val (.int (((p3.toUInt32 >>> ((2 : Int32) &&& 31).toUInt32).toInt32) &&& (3 : Int32))), .val (.int ff), .val (.int nn), .val (.ref b621), .val (.int (own_b (¬ (1 : Int32) = (3 : Int32)))), .unset, .unset, .unset, .unset]) rfl ?_
    show Steps p.tables e below (T635.setTop (mkF m 112 #[.val (.int p0), .val (.int p1), .val (.int p2), .val (.int p3), .val (.ref b571), .val (.ref b594), .val (.int (p3 &&& (3 : Int32))), .val (.int (((p3.toUInt32 >>> ((2 : Int32) &&& 31).toUInt32).toInt32) &&& (3 : Int32))), .val (.int ff), .val (.int nn), .val (.ref b621), .val (.int (own_b (¬ (1 : Int32) = (3 : Int32)))), .unset, .unset, .unset, .unset] [])) _
    refine XS.iload X635.here hx rfl (hb hby at_112) rfl ?_
    show Steps p.tables e below (T635.setTop (mkF m 114 #[.val (.int p0), .val (.int p1), .val (.int p2), .val (.int p3), .val (.ref b571), .val (.ref b594), .val (.int (p3 &&& (3 : Int32))), .val (.int (((p3.toUInt32 >>> ((2 : Int32) &&& 31).toUInt32).toInt32) &&& (3 : Int32))), .val (.int ff), .val (.int nn), .val (.ref b621), .val (.int (own_b (¬ (1 : Int32) = (3 : Int32)))), .unset, .unset, .unset, .unset] [(.int (own_b (¬ (1 : Int32) = (3 : Int32))))])) _
    refine XS.ifNo X635.here hx rfl (hb hby at_114) rfl ((if0 _ _).trans (feq (own_b1 (by decide))).1) ?_
    show Steps p.tables e below (T635.setTop (mkF m 117 #[.val (.int p0), .val (.int p1), .val (.int p2), .val (.int p3), .val (.ref b571), .val (.ref b594), .val (.int (p3 &&& (3 : Int32))), .val (.int (((p3.toUInt32 >>> ((2 : Int32) &&& 31).toUInt32).toInt32) &&& (3 : Int32))), .val (.int ff), .val (.int nn), .val (.ref b621), .val (.int (own_b (¬ (1 : Int32) = (3 : Int32)))), .unset, .unset, .unset, .unset] [])) _
    refine XS.aload X635.here hx rfl (hb hby at_117) rfl rfl ?_
    show Steps p.tables e below (T635.setTop (mkF m 119 #[.val (.int p0), .val (.int p1), .val (.int p2), .val (.int p3), .val (.ref b571), .val (.ref b594), .val (.int (p3 &&& (3 : Int32))), .val (.int (((p3.toUInt32 >>> ((2 : Int32) &&& 31).toUInt32).toInt32) &&& (3 : Int32))), .val (.int ff), .val (.int nn), .val (.ref b621), .val (.int (own_b (¬ (1 : Int32) = (3 : Int32)))), .unset, .unset, .unset, .unset] [(.ref b621)])) _
    exact kq)
  have f644 := (Nat.le_trans f636 K635.1)
  have f645 := (f637.keep K635)
  obtain ⟨cq643, kq643, q643a, q643b, q643c⟩ := isOf hZ rfl f645
  obtain ⟨_, _, ⟨T643, L643, k643, n643⟩, -, X643, ⟨Lc643, hQ643, l643, y643, z643⟩, st643⟩ := X635.virtualBack hx (y := (⟨"com/example/subtree/subtree/index/PlainWords", "length", "()I"⟩ : MethodName)) (z := (⟨"com/example/subtree/subtree/index/PlainWords", "length", "()I"⟩ : MethodName)) hown (mvT hZ (hw _ (List.mem_of_getElem? (i := 40) rfl))) (mvT hZ (hw _ (List.mem_of_getElem? (i := 41) rfl))) (notFace_of_selects (args := #[]) (mvT hZ (hw _ (List.mem_of_getElem? (i := 43) rfl)))) (mvT hZ (hw _ (List.mem_of_getElem? (i := 43) rfl))) (mvT hZ (hw _ (List.mem_of_getElem? (i := 42) rfl))) (by decide) (backOf (W := 0) (rmL l Z a0 hw [] b621 ((3 : Int32) - (1 : Int32)) T635.heap n0 f644 Fx635_3) hZ (hw _ (List.mem_of_getElem? (i := 44) rfl)) (hw _ (List.mem_of_getElem? (i := 10) rfl)) (by decide) (by decide)) q643a q643c (g := (mkF m 119 #[.val (.int p0), .val (.int p1), .val (.int p2), .val (.int p3), .val (.ref b571), .val (.ref b594), .val (.int (p3 &&& (3 : Int32))), .val (.int (((p3.toUInt32 >>> ((2 : Int32) &&& 31).toUInt32).toInt32) &&& (3 : Int32))), .val (.int ff), .val (.int nn), .val (.ref b621), .val (.int (own_b (¬ (1 : Int32) = (3 : Int32)))), .unset, .unset, .unset, .unset] [(.ref b621)])) rfl (by rw [hml]; rfl) (Steps.refl _) (argsL := []) (rest := []) (lenOf pd_5 rfl) rfl (by show 2 * 0 + _ ≤ _; exact Nat.le_of_eq rfl) (hb hby at_119) (fun _ _ => ⟨rfl, rfl, (by decide : 4 + 0 ≤ _), (by decide : 76 + 0 ≤ _)⟩)
  dsimp only [Pt.U, Pt.locs, Pt.cells, Pt.slots] at X643 l643 y643 z643 st643 hQ643
  obtain rfl : k643 = 4 := y643
  obtain rfl : n643 = 76 := z643
  obtain ⟨rfl, N643q, e643⟩ := hQ643
  have N643 : Fr n0 L643 := by rw [l643]; exact Fr.app N635 N643q
  have G646 : Go p e below A0 (T643.setTop (mkF m 122 #[.val (.int p0), .val (.int p1), .val (.int p2), .val (.int p3), .val (.ref b571), .val (.ref b594), .val (.int (p3 &&& (3 : Int32))), .val (.int (((p3.toUInt32 >>> ((2 : Int32) &&& 31).toUInt32).toInt32) &&& (3 : Int32))), .val (.int ff), .val (.int nn), .val (.ref b621), .val (.int (own_b (¬ (1 : Int32) = (3 : Int32)))), .unset, .unset, .unset, .unset] [(.int ((3 : Int32) - (1 : Int32)))])) := fun tq kq => G642 tq (st643.trans kq)
  have G647 : Go p e below A0 (T643.setTop (mkF m 136 #[.val (.int p0), .val (.int p1), .val (.int p2), .val (.int p3), .val (.ref b571), .val (.ref b594), .val (.int (p3 &&& (3 : Int32))), .val (.int (((p3.toUInt32 >>> ((2 : Int32) &&& 31).toUInt32).toInt32) &&& (3 : Int32))), .val (.int ff), .val (.int nn), .val (.ref b621), .val (.int (own_b (¬ (1 : Int32) = (3 : Int32)))), .unset, .unset, .unset, .unset] [(.int nn), (.int ff), (.ref b594), (.ref b621)])) := fun tq kq => G646 tq (by
    refine XS.iconst X643.here hx rfl (hb hby at_122) ?_
    show Steps p.tables e below (T643.setTop (mkF m 123 #[.val (.int p0), .val (.int p1), .val (.int p2), .val (.int p3), .val (.ref b571), .val (.ref b594), .val (.int (p3 &&& (3 : Int32))), .val (.int (((p3.toUInt32 >>> ((2 : Int32) &&& 31).toUInt32).toInt32) &&& (3 : Int32))), .val (.int ff), .val (.int nn), .val (.ref b621), .val (.int (own_b (¬ (1 : Int32) = (3 : Int32)))), .unset, .unset, .unset, .unset] [(.int (2 : Int32)), (.int ((3 : Int32) - (1 : Int32)))])) _
    refine XS.icmpYes X643.here hx rfl (pc0 := 123) (pc' := 128) rfl (hb hby at_123) rfl (teq (by decide)).1 (by decide) (by decide) ?_
    show Steps p.tables e below (T643.setTop (mkF m 128 #[.val (.int p0), .val (.int p1), .val (.int p2), .val (.int p3), .val (.ref b571), .val (.ref b594), .val (.int (p3 &&& (3 : Int32))), .val (.int (((p3.toUInt32 >>> ((2 : Int32) &&& 31).toUInt32).toInt32) &&& (3 : Int32))), .val (.int ff), .val (.int nn), .val (.ref b621), .val (.int (own_b (¬ (1 : Int32) = (3 : Int32)))), .unset, .unset, .unset, .unset] [])) _
    refine XS.aload X643.here hx rfl (hb hby at_128) rfl rfl ?_
    show Steps p.tables e below (T643.setTop (mkF m 130 #[.val (.int p0), .val (.int p1), .val (.int p2), .val (.int p3), .val (.ref b571), .val (.ref b594), .val (.int (p3 &&& (3 : Int32))), .val (.int (((p3.toUInt32 >>> ((2 : Int32) &&& 31).toUInt32).toInt32) &&& (3 : Int32))), .val (.int ff), .val (.int nn), .val (.ref b621), .val (.int (own_b (¬ (1 : Int32) = (3 : Int32)))), .unset, .unset, .unset, .unset] [(.ref b621)])) _
    refine XS.aload X643.here hx rfl (hb hby at_130) rfl rfl ?_
    show Steps p.tables e below (T643.setTop (mkF m 132 #[.val (.int p0), .val (.int p1), .val (.int p2), .val (.int p3), .val (.ref b571), .val (.ref b594), .val (.int (p3 &&& (3 : Int32))), .val (.int (((p3.toUInt32 >>> ((2 : Int32) &&& 31).toUInt32).toInt32) &&& (3 : Int32))), .val (.int ff), .val (.int nn), .val (.ref b621), .val (.int (own_b (¬ (1 : Int32) = (3 : Int32)))), .unset, .unset, .unset, .unset] [(.ref b594), (.ref b621)])) _
    refine XS.iload X643.here hx rfl (hb hby at_132) rfl ?_
    show Steps p.tables e below (T643.setTop (mkF m 134 #[.val (.int p0), .val (.int p1), .val (.int p2), .val (.int p3), .val (.ref b571), .val (.ref b594), .val (.int (p3 &&& (3 : Int32))), .val (.int (((p3.toUInt32 >>> ((2 : Int32) &&& 31).toUInt32).toInt32) &&& (3 : Int32))), .val (.int ff), .val (.int nn), .val (.ref b621), .val (.int (own_b (¬ (1 : Int32) = (3 : Int32)))), .unset, .unset, .unset, .unset] [(.int ff), (.ref b594), (.ref b621)])) _
    refine XS.iload X643.here hx rfl (hb hby at_134) rfl ?_
    show Steps p.tables e below (T643.setTop (mkF m 136 #[.val (.int p0), .val (.int p1), .val (.int p2), .val (.int p3), .val (.ref b571), .val (.ref b594), .val (.int (p3 &&& (3 : Int32))), .val (.int (((p3.toUInt32 >>> ((2 : Int32) &&& 31).toUInt32).toInt32) &&& (3 : Int32))), .val (.int ff), .val (.int nn), .val (.ref b621), .val (.int (own_b (¬ (1 : Int32) = (3 : Int32)))), .unset, .unset, .unset, .unset] [(.int nn), (.int ff), (.ref b594), (.ref b621)])) _
    exact kq)
  obtain ⟨cq648, kq648, q648a, q648b, q648c⟩ := isOf hZ e643 f645
  obtain ⟨_, _, ⟨T648, L648, k648, n648⟩, -, X648, ⟨Lc648, hQ648, l648, y648, z648⟩, st648⟩ := X643.virtualBack hx (y := (⟨"com/example/subtree/subtree/index/PlainWords", "reset", "([CII)V"⟩ : MethodName)) (z := (⟨"com/example/subtree/subtree/index/PlainWords", "reset", "([CII)V"⟩ : MethodName)) hown (mvT hZ (hw _ (List.mem_of_getElem? (i := 20) rfl))) (mvT hZ (hw _ (List.mem_of_getElem? (i := 21) rfl))) (notFace_of_selects (args := #[]) (mvT hZ (hw _ (List.mem_of_getElem? (i := 23) rfl)))) (mvT hZ (hw _ (List.mem_of_getElem? (i := 23) rfl))) (mvT hZ (hw _ (List.mem_of_getElem? (i := 22) rfl))) (by decide) (backOf (W := 0) (rmR l Z a0 hw [] b621 b594 wb ff nn (3 : Int32) (3 : Int32) ((3 : Int32) - (1 : Int32)) (.ref b571) T635.heap n0 f644 f645 g_b621 Fx635_0 Fx635_1 Fx635_2 Fx635_3 Fx635_4) hZ (hw _ (List.mem_of_getElem? (i := 24) rfl)) (hw _ (List.mem_of_getElem? (i := 10) rfl)) (by decide) (by decide)) q648a q648c (g := (mkF m 136 #[.val (.int p0), .val (.int p1), .val (.int p2), .val (.int p3), .val (.ref b571), .val (.ref b594), .val (.int (p3 &&& (3 : Int32))), .val (.int (((p3.toUInt32 >>> ((2 : Int32) &&& 31).toUInt32).toInt32) &&& (3 : Int32))), .val (.int ff), .val (.int nn), .val (.ref b621), .val (.int (own_b (¬ (1 : Int32) = (3 : Int32)))), .unset, .unset, .unset, .unset] [(.int nn), (.int ff), (.ref b594), (.ref b621)])) rfl (by rw [hml]; rfl) (Steps.refl _) (argsL := [(.ref b594), (.int ff), (.int nn)]) (rest := []) (lenOf pd_3 rfl) rfl (by show 2 * 0 + _ ≤ _; exact Nat.le_of_eq rfl) (hb hby at_136) (fun _ _ => ⟨rfl, e643, (by decide : 4 + 0 ≤ _), (by decide : 76 + 0 ≤ _)⟩)
  dsimp only [Pt.U, Pt.locs, Pt.cells, Pt.slots] at X648 l648 y648 z648 st648 hQ648
  obtain rfl : k648 = 4 := y648
  obtain rfl : n648 = 76 := z648
  obtain ⟨rfl, N648q, K648, Fx648_0, Fx648_1, Fx648_2, Fx648_3, Fx648_4⟩ := hQ648
  have N648 : Fr n0 L648 := by rw [l648]; exact Fr.app N643 N648q
  have G649 : Go p e below A0 (T648.setTop (mkF m 139 #[.val (.int p0), .val (.int p1), .val (.int p2), .val (.int p3), .val (.ref b571), .val (.ref b594), .val (.int (p3 &&& (3 : Int32))), .val (.int (((p3.toUInt32 >>> ((2 : Int32) &&& 31).toUInt32).toInt32) &&& (3 : Int32))), .val (.int ff), .val (.int nn), .val (.ref b621), .val (.int (own_b (¬ (1 : Int32) = (3 : Int32)))), .unset, .unset, .unset, .unset] [])) := fun tq kq => G647 tq (st648.trans kq)
  have G650 : Go p e below A0 (T648.setTop (mkF m 141 #[.val (.int p0), .val (.int p1), .val (.int p2), .val (.int p3), .val (.ref b571), .val (.ref b594), .val (.int (p3 &&& (3 : Int32))), .val (.int (((p3.toUInt32 >>> ((2 : Int32) &&& 31).toUInt32).toInt32) &&& (3 : Int32))), .val (.int ff), .val (.int nn), .val (.ref b621), .val (.int (own_b (¬ (1 : Int32) = (3 : Int32)))), .unset, .unset, .unset, .unset] [(.ref b621)])) := fun tq kq => G649 tq (by
    refine XS.aload X648.here hx rfl (hb hby at_139) rfl rfl ?_
    show Steps p.tables e below (T648.setTop (mkF m 141 #[.val (.int p0), .val (.int p1), .val (.int p2), .val (.int p3), .val (.ref b571), .val (.ref b594), .val (.int (p3 &&& (3 : Int32))), .val (.int (((p3.toUInt32 >>> ((2 : Int32) &&& 31).toUInt32).toInt32) &&& (3 : Int32))), .val (.int ff), .val (.int nn), .val (.ref b621), .val (.int (own_b (¬ (1 : Int32) = (3 : Int32)))), .unset, .unset, .unset, .unset] [(.ref b621)])) _
    exact kq)
  have f652 := (Nat.le_trans f644 K648.1)
  have f653 := (f645.keep K648)
  obtain ⟨cq651, kq651, q651a, q651b, q651c⟩ := isOf hZ rfl f653
  obtain ⟨_, _, ⟨T651, L651, k651, n651⟩, -, X651, ⟨Lc651, hQ651, l651, y651, z651⟩, st651⟩ := X648.virtualBack hx (y := (⟨"com/example/subtree/subtree/index/PlainWords", "length", "()I"⟩ : MethodName)) (z := (⟨"com/example/subtree/subtree/index/PlainWords", "length", "()I"⟩ : MethodName)) hown (mvT hZ (hw _ (List.mem_of_getElem? (i := 40) rfl))) (mvT hZ (hw _ (List.mem_of_getElem? (i := 41) rfl))) (notFace_of_selects (args := #[]) (mvT hZ (hw _ (List.mem_of_getElem? (i := 43) rfl)))) (mvT hZ (hw _ (List.mem_of_getElem? (i := 43) rfl))) (mvT hZ (hw _ (List.mem_of_getElem? (i := 42) rfl))) (by decide) (backOf (W := 0) (rmL l Z a0 hw [] b621 (0 : Int32) T648.heap n0 f652 Fx648_3) hZ (hw _ (List.mem_of_getElem? (i := 44) rfl)) (hw _ (List.mem_of_getElem? (i := 10) rfl)) (by decide) (by decide)) q651a q651c (g := (mkF m 141 #[.val (.int p0), .val (.int p1), .val (.int p2), .val (.int p3), .val (.ref b571), .val (.ref b594), .val (.int (p3 &&& (3 : Int32))), .val (.int (((p3.toUInt32 >>> ((2 : Int32) &&& 31).toUInt32).toInt32) &&& (3 : Int32))), .val (.int ff), .val (.int nn), .val (.ref b621), .val (.int (own_b (¬ (1 : Int32) = (3 : Int32)))), .unset, .unset, .unset, .unset] [(.ref b621)])) rfl (by rw [hml]; rfl) (Steps.refl _) (argsL := []) (rest := []) (lenOf pd_5 rfl) rfl (by show 2 * 0 + _ ≤ _; exact Nat.le_of_eq rfl) (hb hby at_141) (fun _ _ => ⟨rfl, rfl, (by decide : 4 + 0 ≤ _), (by decide : 76 + 0 ≤ _)⟩)
  dsimp only [Pt.U, Pt.locs, Pt.cells, Pt.slots] at X651 l651 y651 z651 st651 hQ651
  obtain rfl : k651 = 4 := y651
  obtain rfl : n651 = 76 := z651
  obtain ⟨rfl, N651q, e651⟩ := hQ651
  have N651 : Fr n0 L651 := by rw [l651]; exact Fr.app N648 N651q
  have G654 : Go p e below A0 (T651.setTop (mkF m 144 #[.val (.int p0), .val (.int p1), .val (.int p2), .val (.int p3), .val (.ref b571), .val (.ref b594), .val (.int (p3 &&& (3 : Int32))), .val (.int (((p3.toUInt32 >>> ((2 : Int32) &&& 31).toUInt32).toInt32) &&& (3 : Int32))), .val (.int ff), .val (.int nn), .val (.ref b621), .val (.int (own_b (¬ (1 : Int32) = (3 : Int32)))), .unset, .unset, .unset, .unset] [(.int (0 : Int32))])) := fun tq kq => G650 tq (st651.trans kq)
  have G655 : Go p e below A0 (T651.setTop (mkF m 153 #[.val (.int p0), .val (.int p1), .val (.int p2), .val (.int p3), .val (.ref b571), .val (.ref b594), .val (.int (p3 &&& (3 : Int32))), .val (.int (((p3.toUInt32 >>> ((2 : Int32) &&& 31).toUInt32).toInt32) &&& (3 : Int32))), .val (.int ff), .val (.int nn), .val (.ref b621), .val (.int (own_b (¬ (1 : Int32) = (3 : Int32)))), .val (.int ff), .unset, .unset, .unset] [])) := fun tq kq => G654 tq (by
    refine XS.ifYes X651.here hx rfl (pc0 := 144) (pc' := 149) rfl (hb hby at_144) rfl (by decide) (by decide) (by decide) ?_
    show Steps p.tables e below (T651.setTop (mkF m 149 #[.val (.int p0), .val (.int p1), .val (.int p2), .val (.int p3), .val (.ref b571), .val (.ref b594), .val (.int (p3 &&& (3 : Int32))), .val (.int (((p3.toUInt32 >>> ((2 : Int32) &&& 31).toUInt32).toInt32) &&& (3 : Int32))), .val (.int ff), .val (.int nn), .val (.ref b621), .val (.int (own_b (¬ (1 : Int32) = (3 : Int32)))), .unset, .unset, .unset, .unset] [])) _
    refine XS.iload X651.here hx rfl (hb hby at_149) rfl ?_
    show Steps p.tables e below (T651.setTop (mkF m 151 #[.val (.int p0), .val (.int p1), .val (.int p2), .val (.int p3), .val (.ref b571), .val (.ref b594), .val (.int (p3 &&& (3 : Int32))), .val (.int (((p3.toUInt32 >>> ((2 : Int32) &&& 31).toUInt32).toInt32) &&& (3 : Int32))), .val (.int ff), .val (.int nn), .val (.ref b621), .val (.int (own_b (¬ (1 : Int32) = (3 : Int32)))), .unset, .unset, .unset, .unset] [(.int ff)])) _
    refine XS.istore X651.here hx rfl (hb hby at_151) rfl (l' := #[.val (.int p0), .val (.int p1), .val (.int p2), .val (.int p3), .val (.ref b571), .val (.ref b594), .val (.int (p3 &&& (3 : Int32))), .val (.int (((p3.toUInt32 >>> ((2 : Int32) &&& 31).toUInt32).toInt32) &&& (3 : Int32))), .val (.int ff), .val (.int nn), .val (.ref b621), .val (.int (own_b (¬ (1 : Int32) = (3 : Int32)))), .val (.int ff), .unset, .unset, .unset]) rfl ?_
    show Steps p.tables e below (T651.setTop (mkF m 153 #[.val (.int p0), .val (.int p1), .val (.int p2), .val (.int p3), .val (.ref b571), .val (.ref b594), .val (.int (p3 &&& (3 : Int32))), .val (.int (((p3.toUInt32 >>> ((2 : Int32) &&& 31).toUInt32).toInt32) &&& (3 : Int32))), .val (.int ff), .val (.int nn), .val (.ref b621), .val (.int (own_b (¬ (1 : Int32) = (3 : Int32)))), .val (.int ff), .unset, .unset, .unset] [])) _
    exact kq)
  obtain ⟨T656, Lc656, s1, X656, e656, N656, hG656, G656⟩ : ∃ (T656 : State) (Lc656 : List Loc) (s1 : Int32), Stand p l e room_1 s m #[(.int p0), (.int p1), (.int p2), (.int p3)] below meth c T656 Lc656 4 76 ∧ T656.heap = T648.heap ∧ Fr n0 Lc656 ∧ (s1 = own_st tt nn ff ∧ ¬ s1 < 0 ∧ ¬ nn < s1) ∧ Go p e below A0 (T656.setTop (mkF m 174 #[.val (.int p0), .val (.int p1), .val (.int p2), .val (.int p3), .val (.ref b571), .val (.ref b594), .val (.int (p3 &&& (3 : Int32))), .val (.int (((p3.toUInt32 >>> ((2 : Int32) &&& 31).toUInt32).toInt32) &&& (3 : Int32))), .val (.int ff), .val (.int nn), .val (.ref b621), .val (.int (own_b (¬ (1 : Int32) = (3 : Int32)))), .val (.int s1), .unset, .unset, .unset] [])) := by
    have G657 : Go p e below A0 (T651.setTop (mkF m 157 #[.val (.int p0), .val (.int p1), .val (.int p2), .val (.int p3), .val (.ref b571), .val (.ref b594), .val (.int (p3 &&& (3 : Int32))), .val (.int (((p3.toUInt32 >>> ((2 : Int32) &&& 31).toUInt32).toInt32) &&& (3 : Int32))), .val (.int ff), .val (.int nn), .val (.ref b621), .val (.int (own_b (¬ (1 : Int32) = (3 : Int32)))), .val (.int ff), .unset, .unset, .unset] [(.int nn), (.int ff)])) := fun tq kq => G655 tq (by
      refine XS.iload X651.here hx rfl (hb hby at_153) rfl ?_
      show Steps p.tables e below (T651.setTop (mkF m 155 #[.val (.int p0), .val (.int p1), .val (.int p2), .val (.int p3), .val (.ref b571), .val (.ref b594), .val (.int (p3 &&& (3 : Int32))), .val (.int (((p3.toUInt32 >>> ((2 : Int32) &&& 31).toUInt32).toInt32) &&& (3 : Int32))), .val (.int ff), .val (.int nn), .val (.ref b621), .val (.int (own_b (¬ (1 : Int32) = (3 : Int32)))), .val (.int ff), .unset, .unset, .unset] [(.int ff)])) _
      refine XS.iload X651.here hx rfl (hb hby at_155) rfl ?_
      show Steps p.tables e below (T651.setTop (mkF m 157 #[.val (.int p0), .val (.int p1), .val (.int p2), .val (.int p3), .val (.ref b571), .val (.ref b594), .val (.int (p3 &&& (3 : Int32))), .val (.int (((p3.toUInt32 >>> ((2 : Int32) &&& 31).toUInt32).toInt32) &&& (3 : Int32))), .val (.int ff), .val (.int nn), .val (.ref b621), .val (.int (own_b (¬ (1 : Int32) = (3 : Int32)))), .val (.int ff), .unset, .unset, .unset] [(.int nn), (.int ff)])) _
      exact kq)
    by_cases hc658 : ff < nn
    · have G659 : Go p e below A0 (T651.setTop (mkF m 164 #[.val (.int p0), .val (.int p1), .val (.int p2), .val (.int p3), .val (.ref b571), .val (.ref b594), .val (.int (p3 &&& (3 : Int32))), .val (.int (((p3.toUInt32 >>> ((2 : Int32) &&& 31).toUInt32).toInt32) &&& (3 : Int32))), .val (.int ff), .val (.int nn), .val (.ref b621), .val (.int (own_b (¬ (1 : Int32) = (3 : Int32)))), .val (.int ff), .unset, .unset, .unset] [(.int ff), (.ref b594)])) := fun tq kq => G657 tq (by
        refine XS.icmpNo X651.here hx rfl (hb hby at_157) rfl (tlt hc658).2.1 ?_
        show Steps p.tables e below (T651.setTop (mkF m 160 #[.val (.int p0), .val (.int p1), .val (.int p2), .val (.int p3), .val (.ref b571), .val (.ref b594), .val (.int (p3 &&& (3 : Int32))), .val (.int (((p3.toUInt32 >>> ((2 : Int32) &&& 31).toUInt32).toInt32) &&& (3 : Int32))), .val (.int ff), .val (.int nn), .val (.ref b621), .val (.int (own_b (¬ (1 : Int32) = (3 : Int32)))), .val (.int ff), .unset, .unset, .unset] [])) _
        refine XS.aload X651.here hx rfl (hb hby at_160) rfl rfl ?_
        show Steps p.tables e below (T651.setTop (mkF m 162 #[.val (.int p0), .val (.int p1), .val (.int p2), .val (.int p3), .val (.ref b571), .val (.ref b594), .val (.int (p3 &&& (3 : Int32))), .val (.int (((p3.toUInt32 >>> ((2 : Int32) &&& 31).toUInt32).toInt32) &&& (3 : Int32))), .val (.int ff), .val (.int nn), .val (.ref b621), .val (.int (own_b (¬ (1 : Int32) = (3 : Int32)))), .val (.int ff), .unset, .unset, .unset] [(.ref b594)])) _
        refine XS.iload X651.here hx rfl (hb hby at_162) rfl ?_
        show Steps p.tables e below (T651.setTop (mkF m 164 #[.val (.int p0), .val (.int p1), .val (.int p2), .val (.int p3), .val (.ref b571), .val (.ref b594), .val (.int (p3 &&& (3 : Int32))), .val (.int (((p3.toUInt32 >>> ((2 : Int32) &&& 31).toUInt32).toInt32) &&& (3 : Int32))), .val (.int ff), .val (.int nn), .val (.ref b621), .val (.int (own_b (¬ (1 : Int32) = (3 : Int32)))), .val (.int ff), .unset, .unset, .unset] [(.int ff), (.ref b594)])) _
        exact kq)
      have f660 := (((((Att.ext E621).keep K625 (ninS (Nat.ne_of_lt lt_b594_b621) nin0)).keep K630 (ninS (Nat.ne_of_lt lt_b594_b621) nin0)).keep K635 (ninS (Nat.ne_of_lt lt_b594_b621) (ninS (Nat.ne_of_lt lt_b594_wb) nin0))).keep K648 (ninS (Nat.ne_of_lt lt_b594_b621) nin0))
      obtain ⟨cl661, Ar661, q661, S661, M661, H661⟩ := id f660
      have i663 : ¬ ff < 0 ∧ ff < (3 : Int32) := ⟨hz0, own_ltt hc658 hn3⟩
      have ri663 := htt _ (own_natl i663.1 i663.2)
      have zi663 := own_pos hz0 hc658
      have li663 := own_nlt1 hc658
      have hi662 : ¬ (ff < 0 ∨ cl661.slots.size ≤ (ff).toNatClampNeg) := (inb_of S661 i663)
      have G664 : Go p e below A0 (T651.setTop (mkF m 165 #[.val (.int p0), .val (.int p1), .val (.int p2), .val (.int p3), .val (.ref b571), .val (.ref b594), .val (.int (p3 &&& (3 : Int32))), .val (.int (((p3.toUInt32 >>> ((2 : Int32) &&& 31).toUInt32).toInt32) &&& (3 : Int32))), .val (.int ff), .val (.int nn), .val (.ref b621), .val (.int (own_b (¬ (1 : Int32) = (3 : Int32)))), .val (.int ff), .unset, .unset, .unset] [(.int (tt (ff).toNatClampNeg))])) := fun tq kq => G659 tq (by
        refine X651.caload hx (j := ff) (v := (.int (tt (ff).toNatClampNeg))) (by rw [e651]; exact Ar661.1) (State.isArrayOf_alike hZ.alike Ar661.2.1) Ar661.2.2 hi662 ((H661 _ (S661 ▸ Nat.lt_of_not_le fun y => hi662 (Or.inr y))).trans (congrArg some rfl)) (g := (mkF m 164 #[.val (.int p0), .val (.int p1), .val (.int p2), .val (.int p3), .val (.ref b571), .val (.ref b594), .val (.int (p3 &&& (3 : Int32))), .val (.int (((p3.toUInt32 >>> ((2 : Int32) &&& 31).toUInt32).toInt32) &&& (3 : Int32))), .val (.int ff), .val (.int nn), .val (.ref b621), .val (.int (own_b (¬ (1 : Int32) = (3 : Int32)))), .val (.int ff), .unset, .unset, .unset] [(.int ff), (.ref b594)])) rfl rfl (hb hby at_164) _ ?_
        show Steps p.tables e below (T651.setTop (mkF m 165 #[.val (.int p0), .val (.int p1), .val (.int p2), .val (.int p3), .val (.ref b571), .val (.ref b594), .val (.int (p3 &&& (3 : Int32))), .val (.int (((p3.toUInt32 >>> ((2 : Int32) &&& 31).toUInt32).toInt32) &&& (3 : Int32))), .val (.int ff), .val (.int nn), .val (.ref b621), .val (.int (own_b (¬ (1 : Int32) = (3 : Int32)))), .val (.int ff), .unset, .unset, .unset] [(.int (tt (ff).toNatClampNeg))])) _
        exact kq)
      obtain ⟨_, _, ⟨T665, L665, k665, n665⟩, -, X665, ⟨Lc665, hQ665, l665, y665, z665⟩, st665⟩ := Jvm.LawKit.callS X651 hx (y := (⟨"com/example/subtree/subtree/index/PlainWordsResetPinLaw", "isWord", "(C)Z"⟩ : MethodName)) hown (mvT hZ (hw _ (List.mem_of_getElem? (i := 45) rfl))) (mvT hZ (hw _ (List.mem_of_getElem? (i := 46) rfl))) (mvT hZ (hw _ (List.mem_of_getElem? (i := 47) rfl))) (mvT hZ (hw _ (List.mem_of_getElem? (i := 48) rfl))) (by decide) (backOf (W := 0) (rmIW l Z a0 hw [] (tt (ff).toNatClampNeg) T648.heap n0 f652) hZ (hw _ (List.mem_of_getElem? (i := 48) rfl)) (hw _ (List.mem_of_getElem? (i := 47) rfl)) (by decide) (by decide)) (g := (mkF m 165 #[.val (.int p0), .val (.int p1), .val (.int p2), .val (.int p3), .val (.ref b571), .val (.ref b594), .val (.int (p3 &&& (3 : Int32))), .val (.int (((p3.toUInt32 >>> ((2 : Int32) &&& 31).toUInt32).toInt32) &&& (3 : Int32))), .val (.int ff), .val (.int nn), .val (.ref b621), .val (.int (own_b (¬ (1 : Int32) = (3 : Int32)))), .val (.int ff), .unset, .unset, .unset] [(.int (tt (ff).toNatClampNeg))])) rfl (by rw [hml]; rfl) (argsL := [(.int (tt (ff).toNatClampNeg))]) (rest := []) (lenOf pd_6 rfl) rfl (by show 2 * 0 + _ ≤ _; exact Nat.le_of_eq rfl) (hb hby at_165) (fun _ _ => ⟨rfl, e651, (by decide : 4 + 0 ≤ _), (by decide : 76 + 0 ≤ _)⟩)
      dsimp only [Pt.U, Pt.locs, Pt.cells, Pt.slots] at X665 l665 y665 z665 st665 hQ665
      obtain rfl : k665 = 4 := y665
      obtain rfl : n665 = 76 := z665
      obtain ⟨rfl, N665q, e665⟩ := hQ665
      have N665 : Fr n0 L665 := by rw [l665]; exact Fr.app N651 N665q
      have G666 : Go p e below A0 (T665.setTop (mkF m 168 #[.val (.int p0), .val (.int p1), .val (.int p2), .val (.int p3), .val (.ref b571), .val (.ref b594), .val (.int (p3 &&& (3 : Int32))), .val (.int (((p3.toUInt32 >>> ((2 : Int32) &&& 31).toUInt32).toInt32) &&& (3 : Int32))), .val (.int ff), .val (.int nn), .val (.ref b621), .val (.int (own_b (¬ (1 : Int32) = (3 : Int32)))), .val (.int ff), .unset, .unset, .unset] [(.int (own_b (own_W (tt (ff).toNatClampNeg))))])) := fun tq kq => G664 tq (st665 _ kq)
      by_cases hc667 : (own_W (tt (ff).toNatClampNeg))
      · have G668 : Go p e below A0 (T665.setTop (mkF m 174 #[.val (.int p0), .val (.int p1), .val (.int p2), .val (.int p3), .val (.ref b571), .val (.ref b594), .val (.int (p3 &&& (3 : Int32))), .val (.int (((p3.toUInt32 >>> ((2 : Int32) &&& 31).toUInt32).toInt32) &&& (3 : Int32))), .val (.int ff), .val (.int nn), .val (.ref b621), .val (.int (own_b (¬ (1 : Int32) = (3 : Int32)))), .val (.int ff), .unset, .unset, .unset] [])) := fun tq kq => G666 tq (by
          refine XS.ifYes X665.here hx rfl (pc0 := 168) (pc' := 174) rfl (hb hby at_168) rfl ((if0 _ _).trans (feq (own_b1 hc667)).2) (by decide) (by decide) ?_
          show Steps p.tables e below (T665.setTop (mkF m 174 #[.val (.int p0), .val (.int p1), .val (.int p2), .val (.int p3), .val (.ref b571), .val (.ref b594), .val (.int (p3 &&& (3 : Int32))), .val (.int (((p3.toUInt32 >>> ((2 : Int32) &&& 31).toUInt32).toInt32) &&& (3 : Int32))), .val (.int ff), .val (.int nn), .val (.ref b621), .val (.int (own_b (¬ (1 : Int32) = (3 : Int32)))), .val (.int ff), .unset, .unset, .unset] [])) _
          exact kq)
        exact ⟨T665, _, ff, X665, e665, N665, (by exact ⟨by simp only [own_b, own_st, hc658, hc667, not_true_eq_false, not_false_eq_true, if_true, if_false, or_true, true_or, or_false, false_or, and_true, true_and, and_false, false_and, and_self, or_self], hz0, hfn0⟩), G668⟩
      · have G669 : Go p e below A0 (T665.setTop (mkF m 174 #[.val (.int p0), .val (.int p1), .val (.int p2), .val (.int p3), .val (.ref b571), .val (.ref b594), .val (.int (p3 &&& (3 : Int32))), .val (.int (((p3.toUInt32 >>> ((2 : Int32) &&& 31).toUInt32).toInt32) &&& (3 : Int32))), .val (.int ff), .val (.int nn), .val (.ref b621), .val (.int (own_b (¬ (1 : Int32) = (3 : Int32)))), .val (.int (ff + (1 : Int32))), .unset, .unset, .unset] [])) := fun tq kq => G666 tq (by
          refine XS.ifNo X665.here hx rfl (hb hby at_168) rfl ((if0 _ _).trans (teq (own_b0 hc667)).2) ?_
          show Steps p.tables e below (T665.setTop (mkF m 171 #[.val (.int p0), .val (.int p1), .val (.int p2), .val (.int p3), .val (.ref b571), .val (.ref b594), .val (.int (p3 &&& (3 : Int32))), .val (.int (((p3.toUInt32 >>> ((2 : Int32) &&& 31).toUInt32).toInt32) &&& (3 : Int32))), .val (.int ff), .val (.int nn), .val (.ref b621), .val (.int (own_b (¬ (1 : Int32) = (3 : Int32)))), .val (.int ff), .unset, .unset, .unset] [])) _
          refine XS.iinc X665.here hx rfl (hb hby at_171) rfl (l' := #[.val (.int p0), .val (.int p1), .val (.int p2), .val (.int p3), .val (.ref b571), .val (.ref b594), .val (.int (p3 &&& (3 : Int32))), .val (.int (((p3.toUInt32 >>> ((2 : Int32) &&& 31).toUInt32).toInt32) &&& (3 : Int32))), .val (.int ff), .val (.int nn), .val (.ref b621), .val (.int (own_b (¬ (1 : Int32) = (3 : Int32)))), .val (.int (ff + (1 : Int32))), .unset, .unset, .unset]) rfl ?_
          show Steps p.tables e below (T665.setTop (mkF m 174 #[.val (.int p0), .val (.int p1), .val (.int p2), .val (.int p3), .val (.ref b571), .val (.ref b594), .val (.int (p3 &&& (3 : Int32))), .val (.int (((p3.toUInt32 >>> ((2 : Int32) &&& 31).toUInt32).toInt32) &&& (3 : Int32))), .val (.int ff), .val (.int nn), .val (.ref b621), .val (.int (own_b (¬ (1 : Int32) = (3 : Int32)))), .val (.int (ff + (1 : Int32))), .unset, .unset, .unset] [])) _
          exact kq)
        exact ⟨T665, _, (ff + (1 : Int32)), X665, e665, N665, (by exact ⟨by simp only [own_b, own_st, hc658, hc667, not_true_eq_false, not_false_eq_true, if_true, if_false, or_true, true_or, or_false, false_or, and_true, true_and, and_false, false_and, and_self, or_self], zi663, li663⟩), G669⟩
    · have G670 : Go p e below A0 (T651.setTop (mkF m 174 #[.val (.int p0), .val (.int p1), .val (.int p2), .val (.int p3), .val (.ref b571), .val (.ref b594), .val (.int (p3 &&& (3 : Int32))), .val (.int (((p3.toUInt32 >>> ((2 : Int32) &&& 31).toUInt32).toInt32) &&& (3 : Int32))), .val (.int ff), .val (.int nn), .val (.ref b621), .val (.int (own_b (¬ (1 : Int32) = (3 : Int32)))), .val (.int ff), .unset, .unset, .unset] [])) := fun tq kq => G657 tq (by
        refine XS.icmpYes X651.here hx rfl (pc0 := 157) (pc' := 174) rfl (hb hby at_157) rfl (flt hc658).2.1 (by decide) (by decide) ?_
        show Steps p.tables e below (T651.setTop (mkF m 174 #[.val (.int p0), .val (.int p1), .val (.int p2), .val (.int p3), .val (.ref b571), .val (.ref b594), .val (.int (p3 &&& (3 : Int32))), .val (.int (((p3.toUInt32 >>> ((2 : Int32) &&& 31).toUInt32).toInt32) &&& (3 : Int32))), .val (.int ff), .val (.int nn), .val (.ref b621), .val (.int (own_b (¬ (1 : Int32) = (3 : Int32)))), .val (.int ff), .unset, .unset, .unset] [])) _
        exact kq)
      exact ⟨T651, _, ff, X651, e651, N651, (by exact ⟨by simp only [own_b, own_st, hc658, not_true_eq_false, not_false_eq_true, if_true, if_false, or_true, true_or, or_false, false_or, and_true, true_and, and_false, false_and, and_self, or_self], hz0, hfn0⟩), G670⟩
  obtain ⟨hs1, zs1, ls1⟩ := hG656
  obtain ⟨T671, Lc671, s2, X671, e671, N671, hG671, G671⟩ : ∃ (T671 : State) (Lc671 : List Loc) (s2 : Int32), Stand p l e room_1 s m #[(.int p0), (.int p1), (.int p2), (.int p3)] below meth c T671 Lc671 4 76 ∧ T671.heap = T648.heap ∧ Fr n0 Lc671 ∧ (s2 = own_st tt nn s1 ∧ ¬ s2 < 0 ∧ ¬ nn < s2) ∧ Go p e below A0 (T671.setTop (mkF m 195 #[.val (.int p0), .val (.int p1), .val (.int p2), .val (.int p3), .val (.ref b571), .val (.ref b594), .val (.int (p3 &&& (3 : Int32))), .val (.int (((p3.toUInt32 >>> ((2 : Int32) &&& 31).toUInt32).toInt32) &&& (3 : Int32))), .val (.int ff), .val (.int nn), .val (.ref b621), .val (.int (own_b (¬ (1 : Int32) = (3 : Int32)))), .val (.int s2), .unset, .unset, .unset] [])) := by
    have G672 : Go p e below A0 (T656.setTop (mkF m 178 #[.val (.int p0), .val (.int p1), .val (.int p2), .val (.int p3), .val (.ref b571), .val (.ref b594), .val (.int (p3 &&& (3 : Int32))), .val (.int (((p3.toUInt32 >>> ((2 : Int32) &&& 31).toUInt32).toInt32) &&& (3 : Int32))), .val (.int ff), .val (.int nn), .val (.ref b621), .val (.int (own_b (¬ (1 : Int32) = (3 : Int32)))), .val (.int s1), .unset, .unset, .unset] [(.int nn), (.int s1)])) := fun tq kq => G656 tq (by
      refine XS.iload X656.here hx rfl (hb hby at_174) rfl ?_
      show Steps p.tables e below (T656.setTop (mkF m 176 #[.val (.int p0), .val (.int p1), .val (.int p2), .val (.int p3), .val (.ref b571), .val (.ref b594), .val (.int (p3 &&& (3 : Int32))), .val (.int (((p3.toUInt32 >>> ((2 : Int32) &&& 31).toUInt32).toInt32) &&& (3 : Int32))), .val (.int ff), .val (.int nn), .val (.ref b621), .val (.int (own_b (¬ (1 : Int32) = (3 : Int32)))), .val (.int s1), .unset, .unset, .unset] [(.int s1)])) _
      refine XS.iload X656.here hx rfl (hb hby at_176) rfl ?_
      show Steps p.tables e below (T656.setTop (mkF m 178 #[.val (.int p0), .val (.int p1), .val (.int p2), .val (.int p3), .val (.ref b571), .val (.ref b594), .val (.int (p3 &&& (3 : Int32))), .val (.int (((p3.toUInt32 >>> ((2 : Int32) &&& 31).toUInt32).toInt32) &&& (3 : Int32))), .val (.int ff), .val (.int nn), .val (.ref b621), .val (.int (own_b (¬ (1 : Int32) = (3 : Int32)))), .val (.int s1), .unset, .unset, .unset] [(.int nn), (.int s1)])) _
      exact kq)
    by_cases hc673 : s1 < nn
    · have G674 : Go p e below A0 (T656.setTop (mkF m 185 #[.val (.int p0), .val (.int p1), .val (.int p2), .val (.int p3), .val (.ref b571), .val (.ref b594), .val (.int (p3 &&& (3 : Int32))), .val (.int (((p3.toUInt32 >>> ((2 : Int32) &&& 31).toUInt32).toInt32) &&& (3 : Int32))), .val (.int ff), .val (.int nn), .val (.ref b621), .val (.int (own_b (¬ (1 : Int32) = (3 : Int32)))), .val (.int s1), .unset, .unset, .unset] [(.int s1), (.ref b594)])) := fun tq kq => G672 tq (by
        refine XS.icmpNo X656.here hx rfl (hb hby at_178) rfl (tlt hc673).2.1 ?_
        show Steps p.tables e below (T656.setTop (mkF m 181 #[.val (.int p0), .val (.int p1), .val (.int p2), .val (.int p3), .val (.ref b571), .val (.ref b594), .val (.int (p3 &&& (3 : Int32))), .val (.int (((p3.toUInt32 >>> ((2 : Int32) &&& 31).toUInt32).toInt32) &&& (3 : Int32))), .val (.int ff), .val (.int nn), .val (.ref b621), .val (.int (own_b (¬ (1 : Int32) = (3 : Int32)))), .val (.int s1), .unset, .unset, .unset] [])) _
        refine XS.aload X656.here hx rfl (hb hby at_181) rfl rfl ?_
        show Steps p.tables e below (T656.setTop (mkF m 183 #[.val (.int p0), .val (.int p1), .val (.int p2), .val (.int p3), .val (.ref b571), .val (.ref b594), .val (.int (p3 &&& (3 : Int32))), .val (.int (((p3.toUInt32 >>> ((2 : Int32) &&& 31).toUInt32).toInt32) &&& (3 : Int32))), .val (.int ff), .val (.int nn), .val (.ref b621), .val (.int (own_b (¬ (1 : Int32) = (3 : Int32)))), .val (.int s1), .unset, .unset, .unset] [(.ref b594)])) _
        refine XS.iload X656.here hx rfl (hb hby at_183) rfl ?_
        show Steps p.tables e below (T656.setTop (mkF m 185 #[.val (.int p0), .val (.int p1), .val (.int p2), .val (.int p3), .val (.ref b571), .val (.ref b594), .val (.int (p3 &&& (3 : Int32))), .val (.int (((p3.toUInt32 >>> ((2 : Int32) &&& 31).toUInt32).toInt32) &&& (3 : Int32))), .val (.int ff), .val (.int nn), .val (.ref b621), .val (.int (own_b (¬ (1 : Int32) = (3 : Int32)))), .val (.int s1), .unset, .unset, .unset] [(.int s1), (.ref b594)])) _
        exact kq)
      have f675 := (((((Att.ext E621).keep K625 (ninS (Nat.ne_of_lt lt_b594_b621) nin0)).keep K630 (ninS (Nat.ne_of_lt lt_b594_b621) nin0)).keep K635 (ninS (Nat.ne_of_lt lt_b594_b621) (ninS (Nat.ne_of_lt lt_b594_wb) nin0))).keep K648 (ninS (Nat.ne_of_lt lt_b594_b621) nin0))
      obtain ⟨cl676, Ar676, q676, S676, M676, H676⟩ := id f675
      have i678 : ¬ s1 < 0 ∧ s1 < (3 : Int32) := ⟨zs1, own_ltt hc673 hn3⟩
      have ri678 := htt _ (own_natl i678.1 i678.2)
      have zi678 := own_pos zs1 hc673
      have li678 := own_nlt1 hc673
      have hi677 : ¬ (s1 < 0 ∨ cl676.slots.size ≤ (s1).toNatClampNeg) := (inb_of S676 i678)
      have G679 : Go p e below A0 (T656.setTop (mkF m 186 #[.val (.int p0), .val (.int p1), .val (.int p2), .val (.int p3), .val (.ref b571), .val (.ref b594), .val (.int (p3 &&& (3 : Int32))), .val (.int (((p3.toUInt32 >>> ((2 : Int32) &&& 31).toUInt32).toInt32) &&& (3 : Int32))), .val (.int ff), .val (.int nn), .val (.ref b621), .val (.int (own_b (¬ (1 : Int32) = (3 : Int32)))), .val (.int s1), .unset, .unset, .unset] [(.int (tt (s1).toNatClampNeg))])) := fun tq kq => G674 tq (by
        refine X656.caload hx (j := s1) (v := (.int (tt (s1).toNatClampNeg))) (by rw [e656]; exact Ar676.1) (State.isArrayOf_alike hZ.alike Ar676.2.1) Ar676.2.2 hi677 ((H676 _ (S676 ▸ Nat.lt_of_not_le fun y => hi677 (Or.inr y))).trans (congrArg some rfl)) (g := (mkF m 185 #[.val (.int p0), .val (.int p1), .val (.int p2), .val (.int p3), .val (.ref b571), .val (.ref b594), .val (.int (p3 &&& (3 : Int32))), .val (.int (((p3.toUInt32 >>> ((2 : Int32) &&& 31).toUInt32).toInt32) &&& (3 : Int32))), .val (.int ff), .val (.int nn), .val (.ref b621), .val (.int (own_b (¬ (1 : Int32) = (3 : Int32)))), .val (.int s1), .unset, .unset, .unset] [(.int s1), (.ref b594)])) rfl rfl (hb hby at_185) _ ?_
        show Steps p.tables e below (T656.setTop (mkF m 186 #[.val (.int p0), .val (.int p1), .val (.int p2), .val (.int p3), .val (.ref b571), .val (.ref b594), .val (.int (p3 &&& (3 : Int32))), .val (.int (((p3.toUInt32 >>> ((2 : Int32) &&& 31).toUInt32).toInt32) &&& (3 : Int32))), .val (.int ff), .val (.int nn), .val (.ref b621), .val (.int (own_b (¬ (1 : Int32) = (3 : Int32)))), .val (.int s1), .unset, .unset, .unset] [(.int (tt (s1).toNatClampNeg))])) _
        exact kq)
      obtain ⟨_, _, ⟨T680, L680, k680, n680⟩, -, X680, ⟨Lc680, hQ680, l680, y680, z680⟩, st680⟩ := Jvm.LawKit.callS X656 hx (y := (⟨"com/example/subtree/subtree/index/PlainWordsResetPinLaw", "isWord", "(C)Z"⟩ : MethodName)) hown (mvT hZ (hw _ (List.mem_of_getElem? (i := 45) rfl))) (mvT hZ (hw _ (List.mem_of_getElem? (i := 46) rfl))) (mvT hZ (hw _ (List.mem_of_getElem? (i := 47) rfl))) (mvT hZ (hw _ (List.mem_of_getElem? (i := 48) rfl))) (by decide) (backOf (W := 0) (rmIW l Z a0 hw [] (tt (s1).toNatClampNeg) T648.heap n0 f652) hZ (hw _ (List.mem_of_getElem? (i := 48) rfl)) (hw _ (List.mem_of_getElem? (i := 47) rfl)) (by decide) (by decide)) (g := (mkF m 186 #[.val (.int p0), .val (.int p1), .val (.int p2), .val (.int p3), .val (.ref b571), .val (.ref b594), .val (.int (p3 &&& (3 : Int32))), .val (.int (((p3.toUInt32 >>> ((2 : Int32) &&& 31).toUInt32).toInt32) &&& (3 : Int32))), .val (.int ff), .val (.int nn), .val (.ref b621), .val (.int (own_b (¬ (1 : Int32) = (3 : Int32)))), .val (.int s1), .unset, .unset, .unset] [(.int (tt (s1).toNatClampNeg))])) rfl (by rw [hml]; rfl) (argsL := [(.int (tt (s1).toNatClampNeg))]) (rest := []) (lenOf pd_6 rfl) rfl (by show 2 * 0 + _ ≤ _; exact Nat.le_of_eq rfl) (hb hby at_186) (fun _ _ => ⟨rfl, e656, (by decide : 4 + 0 ≤ _), (by decide : 76 + 0 ≤ _)⟩)
      dsimp only [Pt.U, Pt.locs, Pt.cells, Pt.slots] at X680 l680 y680 z680 st680 hQ680
      obtain rfl : k680 = 4 := y680
      obtain rfl : n680 = 76 := z680
      obtain ⟨rfl, N680q, e680⟩ := hQ680
      have N680 : Fr n0 L680 := by rw [l680]; exact Fr.app N656 N680q
      have G681 : Go p e below A0 (T680.setTop (mkF m 189 #[.val (.int p0), .val (.int p1), .val (.int p2), .val (.int p3), .val (.ref b571), .val (.ref b594), .val (.int (p3 &&& (3 : Int32))), .val (.int (((p3.toUInt32 >>> ((2 : Int32) &&& 31).toUInt32).toInt32) &&& (3 : Int32))), .val (.int ff), .val (.int nn), .val (.ref b621), .val (.int (own_b (¬ (1 : Int32) = (3 : Int32)))), .val (.int s1), .unset, .unset, .unset] [(.int (own_b (own_W (tt (s1).toNatClampNeg))))])) := fun tq kq => G679 tq (st680 _ kq)
      by_cases hc682 : (own_W (tt (s1).toNatClampNeg))
      · have G683 : Go p e below A0 (T680.setTop (mkF m 195 #[.val (.int p0), .val (.int p1), .val (.int p2), .val (.int p3), .val (.ref b571), .val (.ref b594), .val (.int (p3 &&& (3 : Int32))), .val (.int (((p3.toUInt32 >>> ((2 : Int32) &&& 31).toUInt32).toInt32) &&& (3 : Int32))), .val (.int ff), .val (.int nn), .val (.ref b621), .val (.int (own_b (¬ (1 : Int32) = (3 : Int32)))), .val (.int s1), .unset, .unset, .unset] [])) := fun tq kq => G681 tq (by
          refine XS.ifYes X680.here hx rfl (pc0 := 189) (pc' := 195) rfl (hb hby at_189) rfl ((if0 _ _).trans (feq (own_b1 hc682)).2) (by decide) (by decide) ?_
          show Steps p.tables e below (T680.setTop (mkF m 195 #[.val (.int p0), .val (.int p1), .val (.int p2), .val (.int p3), .val (.ref b571), .val (.ref b594), .val (.int (p3 &&& (3 : Int32))), .val (.int (((p3.toUInt32 >>> ((2 : Int32) &&& 31).toUInt32).toInt32) &&& (3 : Int32))), .val (.int ff), .val (.int nn), .val (.ref b621), .val (.int (own_b (¬ (1 : Int32) = (3 : Int32)))), .val (.int s1), .unset, .unset, .unset] [])) _
          exact kq)
        exact ⟨T680, _, s1, X680, e680, N680, (by exact ⟨by simp only [own_b, own_st, hc673, hc682, not_true_eq_false, not_false_eq_true, if_true, if_false, or_true, true_or, or_false, false_or, and_true, true_and, and_false, false_and, and_self, or_self], zs1, ls1⟩), G683⟩
      · have G684 : Go p e below A0 (T680.setTop (mkF m 195 #[.val (.int p0), .val (.int p1), .val (.int p2), .val (.int p3), .val (.ref b571), .val (.ref b594), .val (.int (p3 &&& (3 : Int32))), .val (.int (((p3.toUInt32 >>> ((2 : Int32) &&& 31).toUInt32).toInt32) &&& (3 : Int32))), .val (.int ff), .val (.int nn), .val (.ref b621), .val (.int (own_b (¬ (1 : Int32) = (3 : Int32)))), .val (.int (s1 + (1 : Int32))), .unset, .unset, .unset] [])) := fun tq kq => G681 tq (by
          refine XS.ifNo X680.here hx rfl (hb hby at_189) rfl ((if0 _ _).trans (teq (own_b0 hc682)).2) ?_
          show Steps p.tables e below (T680.setTop (mkF m 192 #[.val (.int p0), .val (.int p1), .val (.int p2), .val (.int p3), .val (.ref b571), .val (.ref b594), .val (.int (p3 &&& (3 : Int32))), .val (.int (((p3.toUInt32 >>> ((2 : Int32) &&& 31).toUInt32).toInt32) &&& (3 : Int32))), .val (.int ff), .val (.int nn), .val (.ref b621), .val (.int (own_b (¬ (1 : Int32) = (3 : Int32)))), .val (.int s1), .unset, .unset, .unset] [])) _
          refine XS.iinc X680.here hx rfl (hb hby at_192) rfl (l' := #[.val (.int p0), .val (.int p1), .val (.int p2), .val (.int p3), .val (.ref b571), .val (.ref b594), .val (.int (p3 &&& (3 : Int32))), .val (.int (((p3.toUInt32 >>> ((2 : Int32) &&& 31).toUInt32).toInt32) &&& (3 : Int32))), .val (.int ff), .val (.int nn), .val (.ref b621), .val (.int (own_b (¬ (1 : Int32) = (3 : Int32)))), .val (.int (s1 + (1 : Int32))), .unset, .unset, .unset]) rfl ?_
          show Steps p.tables e below (T680.setTop (mkF m 195 #[.val (.int p0), .val (.int p1), .val (.int p2), .val (.int p3), .val (.ref b571), .val (.ref b594), .val (.int (p3 &&& (3 : Int32))), .val (.int (((p3.toUInt32 >>> ((2 : Int32) &&& 31).toUInt32).toInt32) &&& (3 : Int32))), .val (.int ff), .val (.int nn), .val (.ref b621), .val (.int (own_b (¬ (1 : Int32) = (3 : Int32)))), .val (.int (s1 + (1 : Int32))), .unset, .unset, .unset] [])) _
          exact kq)
        exact ⟨T680, _, (s1 + (1 : Int32)), X680, e680, N680, (by exact ⟨by simp only [own_b, own_st, hc673, hc682, not_true_eq_false, not_false_eq_true, if_true, if_false, or_true, true_or, or_false, false_or, and_true, true_and, and_false, false_and, and_self, or_self], zi678, li678⟩), G684⟩
    · have G685 : Go p e below A0 (T656.setTop (mkF m 195 #[.val (.int p0), .val (.int p1), .val (.int p2), .val (.int p3), .val (.ref b571), .val (.ref b594), .val (.int (p3 &&& (3 : Int32))), .val (.int (((p3.toUInt32 >>> ((2 : Int32) &&& 31).toUInt32).toInt32) &&& (3 : Int32))), .val (.int ff), .val (.int nn), .val (.ref b621), .val (.int (own_b (¬ (1 : Int32) = (3 : Int32)))), .val (.int s1), .unset, .unset, .unset] [])) := fun tq kq => G672 tq (by
        refine XS.icmpYes X656.here hx rfl (pc0 := 178) (pc' := 195) rfl (hb hby at_178) rfl (flt hc673).2.1 (by decide) (by decide) ?_
        show Steps p.tables e below (T656.setTop (mkF m 195 #[.val (.int p0), .val (.int p1), .val (.int p2), .val (.int p3), .val (.ref b571), .val (.ref b594), .val (.int (p3 &&& (3 : Int32))), .val (.int (((p3.toUInt32 >>> ((2 : Int32) &&& 31).toUInt32).toInt32) &&& (3 : Int32))), .val (.int ff), .val (.int nn), .val (.ref b621), .val (.int (own_b (¬ (1 : Int32) = (3 : Int32)))), .val (.int s1), .unset, .unset, .unset] [])) _
        exact kq)
      exact ⟨T656, _, s1, X656, e656, N656, (by exact ⟨by simp only [own_b, own_st, hc673, not_true_eq_false, not_false_eq_true, if_true, if_false, or_true, true_or, or_false, false_or, and_true, true_and, and_false, false_and, and_self, or_self], zs1, ls1⟩), G685⟩
  obtain ⟨hs2, zs2, ls2⟩ := hG671
  obtain ⟨T686, Lc686, s3, X686, e686, N686, hG686, G686⟩ : ∃ (T686 : State) (Lc686 : List Loc) (s3 : Int32), Stand p l e room_1 s m #[(.int p0), (.int p1), (.int p2), (.int p3)] below meth c T686 Lc686 4 76 ∧ T686.heap = T648.heap ∧ Fr n0 Lc686 ∧ (s3 = own_st tt nn s2 ∧ ¬ s3 < 0 ∧ ¬ nn < s3) ∧ Go p e below A0 (T686.setTop (mkF m 216 #[.val (.int p0), .val (.int p1), .val (.int p2), .val (.int p3), .val (.ref b571), .val (.ref b594), .val (.int (p3 &&& (3 : Int32))), .val (.int (((p3.toUInt32 >>> ((2 : Int32) &&& 31).toUInt32).toInt32) &&& (3 : Int32))), .val (.int ff), .val (.int nn), .val (.ref b621), .val (.int (own_b (¬ (1 : Int32) = (3 : Int32)))), .val (.int s3), .unset, .unset, .unset] [])) := by
    have G687 : Go p e below A0 (T671.setTop (mkF m 199 #[.val (.int p0), .val (.int p1), .val (.int p2), .val (.int p3), .val (.ref b571), .val (.ref b594), .val (.int (p3 &&& (3 : Int32))), .val (.int (((p3.toUInt32 >>> ((2 : Int32) &&& 31).toUInt32).toInt32) &&& (3 : Int32))), .val (.int ff), .val (.int nn), .val (.ref b621), .val (.int (own_b (¬ (1 : Int32) = (3 : Int32)))), .val (.int s2), .unset, .unset, .unset] [(.int nn), (.int s2)])) := fun tq kq => G671 tq (by
      refine XS.iload X671.here hx rfl (hb hby at_195) rfl ?_
      show Steps p.tables e below (T671.setTop (mkF m 197 #[.val (.int p0), .val (.int p1), .val (.int p2), .val (.int p3), .val (.ref b571), .val (.ref b594), .val (.int (p3 &&& (3 : Int32))), .val (.int (((p3.toUInt32 >>> ((2 : Int32) &&& 31).toUInt32).toInt32) &&& (3 : Int32))), .val (.int ff), .val (.int nn), .val (.ref b621), .val (.int (own_b (¬ (1 : Int32) = (3 : Int32)))), .val (.int s2), .unset, .unset, .unset] [(.int s2)])) _
      refine XS.iload X671.here hx rfl (hb hby at_197) rfl ?_
      show Steps p.tables e below (T671.setTop (mkF m 199 #[.val (.int p0), .val (.int p1), .val (.int p2), .val (.int p3), .val (.ref b571), .val (.ref b594), .val (.int (p3 &&& (3 : Int32))), .val (.int (((p3.toUInt32 >>> ((2 : Int32) &&& 31).toUInt32).toInt32) &&& (3 : Int32))), .val (.int ff), .val (.int nn), .val (.ref b621), .val (.int (own_b (¬ (1 : Int32) = (3 : Int32)))), .val (.int s2), .unset, .unset, .unset] [(.int nn), (.int s2)])) _
      exact kq)
    by_cases hc688 : s2 < nn
    · have G689 : Go p e below A0 (T671.setTop (mkF m 206 #[.val (.int p0), .val (.int p1), .val (.int p2), .val (.int p3), .val (.ref b571), .val (.ref b594), .val (.int (p3 &&& (3 : Int32))), .val (.int (((p3.toUInt32 >>> ((2 : Int32) &&& 31).toUInt32).toInt32) &&& (3 : Int32))), .val (.int ff), .val (.int nn), .val (.ref b621), .val (.int (own_b (¬ (1 : Int32) = (3 : Int32)))), .val (.int s2), .unset, .unset, .unset] [(.int s2), (.ref b594)])) := fun tq kq => G687 tq (by
        refine XS.icmpNo X671.here hx rfl (hb hby at_199) rfl (tlt hc688).2.1 ?_
        show Steps p.tables e below (T671.setTop (mkF m 202 #[.val (.int p0), .val (.int p1), .val (.int p2), .val (.int p3), .val (.ref b571), .val (.ref b594), .val (.int (p3 &&& (3 : Int32))), .val (.int (((p3.toUInt32 >>> ((2 : Int32) &&& 31).toUInt32).toInt32) &&& (3 : Int32))), .val (.int ff), .val (.int nn), .val (.ref b621), .val (.int (own_b (¬ (1 : Int32) = (3 : Int32)))), .val (.int s2), .unset, .unset, .unset] [])) _
        refine XS.aload X671.here hx rfl (hb hby at_202) rfl rfl ?_
        show Steps p.tables e below (T671.setTop (mkF m 204 #[.val (.int p0), .val (.int p1), .val (.int p2), .val (.int p3), .val (.ref b571), .val (.ref b594), .val (.int (p3 &&& (3 : Int32))), .val (.int (((p3.toUInt32 >>> ((2 : Int32) &&& 31).toUInt32).toInt32) &&& (3 : Int32))), .val (.int ff), .val (.int nn), .val (.ref b621), .val (.int (own_b (¬ (1 : Int32) = (3 : Int32)))), .val (.int s2), .unset, .unset, .unset] [(.ref b594)])) _
        refine XS.iload X671.here hx rfl (hb hby at_204) rfl ?_
        show Steps p.tables e below (T671.setTop (mkF m 206 #[.val (.int p0), .val (.int p1), .val (.int p2), .val (.int p3), .val (.ref b571), .val (.ref b594), .val (.int (p3 &&& (3 : Int32))), .val (.int (((p3.toUInt32 >>> ((2 : Int32) &&& 31).toUInt32).toInt32) &&& (3 : Int32))), .val (.int ff), .val (.int nn), .val (.ref b621), .val (.int (own_b (¬ (1 : Int32) = (3 : Int32)))), .val (.int s2), .unset, .unset, .unset] [(.int s2), (.ref b594)])) _
        exact kq)
      have f690 := (((((Att.ext E621).keep K625 (ninS (Nat.ne_of_lt lt_b594_b621) nin0)).keep K630 (ninS (Nat.ne_of_lt lt_b594_b621) nin0)).keep K635 (ninS (Nat.ne_of_lt lt_b594_b621) (ninS (Nat.ne_of_lt lt_b594_wb) nin0))).keep K648 (ninS (Nat.ne_of_lt lt_b594_b621) nin0))
      obtain ⟨cl691, Ar691, q691, S691, M691, H691⟩ := id f690
      have i693 : ¬ s2 < 0 ∧ s2 < (3 : Int32) := ⟨zs2, own_ltt hc688 hn3⟩
      have ri693 := htt _ (own_natl i693.1 i693.2)
      have zi693 := own_pos zs2 hc688
      have li693 := own_nlt1 hc688
      have hi692 : ¬ (s2 < 0 ∨ cl691.slots.size ≤ (s2).toNatClampNeg) := (inb_of S691 i693)
      have G694 : Go p e below A0 (T671.setTop (mkF m 207 #[.val (.int p0), .val (.int p1), .val (.int p2), .val (.int p3), .val (.ref b571), .val (.ref b594), .val (.int (p3 &&& (3 : Int32))), .val (.int (((p3.toUInt32 >>> ((2 : Int32) &&& 31).toUInt32).toInt32) &&& (3 : Int32))), .val (.int ff), .val (.int nn), .val (.ref b621), .val (.int (own_b (¬ (1 : Int32) = (3 : Int32)))), .val (.int s2), .unset, .unset, .unset] [(.int (tt (s2).toNatClampNeg))])) := fun tq kq => G689 tq (by
        refine X671.caload hx (j := s2) (v := (.int (tt (s2).toNatClampNeg))) (by rw [e671]; exact Ar691.1) (State.isArrayOf_alike hZ.alike Ar691.2.1) Ar691.2.2 hi692 ((H691 _ (S691 ▸ Nat.lt_of_not_le fun y => hi692 (Or.inr y))).trans (congrArg some rfl)) (g := (mkF m 206 #[.val (.int p0), .val (.int p1), .val (.int p2), .val (.int p3), .val (.ref b571), .val (.ref b594), .val (.int (p3 &&& (3 : Int32))), .val (.int (((p3.toUInt32 >>> ((2 : Int32) &&& 31).toUInt32).toInt32) &&& (3 : Int32))), .val (.int ff), .val (.int nn), .val (.ref b621), .val (.int (own_b (¬ (1 : Int32) = (3 : Int32)))), .val (.int s2), .unset, .unset, .unset] [(.int s2), (.ref b594)])) rfl rfl (hb hby at_206) _ ?_
        show Steps p.tables e below (T671.setTop (mkF m 207 #[.val (.int p0), .val (.int p1), .val (.int p2), .val (.int p3), .val (.ref b571), .val (.ref b594), .val (.int (p3 &&& (3 : Int32))), .val (.int (((p3.toUInt32 >>> ((2 : Int32) &&& 31).toUInt32).toInt32) &&& (3 : Int32))), .val (.int ff), .val (.int nn), .val (.ref b621), .val (.int (own_b (¬ (1 : Int32) = (3 : Int32)))), .val (.int s2), .unset, .unset, .unset] [(.int (tt (s2).toNatClampNeg))])) _
        exact kq)
      obtain ⟨_, _, ⟨T695, L695, k695, n695⟩, -, X695, ⟨Lc695, hQ695, l695, y695, z695⟩, st695⟩ := Jvm.LawKit.callS X671 hx (y := (⟨"com/example/subtree/subtree/index/PlainWordsResetPinLaw", "isWord", "(C)Z"⟩ : MethodName)) hown (mvT hZ (hw _ (List.mem_of_getElem? (i := 45) rfl))) (mvT hZ (hw _ (List.mem_of_getElem? (i := 46) rfl))) (mvT hZ (hw _ (List.mem_of_getElem? (i := 47) rfl))) (mvT hZ (hw _ (List.mem_of_getElem? (i := 48) rfl))) (by decide) (backOf (W := 0) (rmIW l Z a0 hw [] (tt (s2).toNatClampNeg) T648.heap n0 f652) hZ (hw _ (List.mem_of_getElem? (i := 48) rfl)) (hw _ (List.mem_of_getElem? (i := 47) rfl)) (by decide) (by decide)) (g := (mkF m 207 #[.val (.int p0), .val (.int p1), .val (.int p2), .val (.int p3), .val (.ref b571), .val (.ref b594), .val (.int (p3 &&& (3 : Int32))), .val (.int (((p3.toUInt32 >>> ((2 : Int32) &&& 31).toUInt32).toInt32) &&& (3 : Int32))), .val (.int ff), .val (.int nn), .val (.ref b621), .val (.int (own_b (¬ (1 : Int32) = (3 : Int32)))), .val (.int s2), .unset, .unset, .unset] [(.int (tt (s2).toNatClampNeg))])) rfl (by rw [hml]; rfl) (argsL := [(.int (tt (s2).toNatClampNeg))]) (rest := []) (lenOf pd_6 rfl) rfl (by show 2 * 0 + _ ≤ _; exact Nat.le_of_eq rfl) (hb hby at_207) (fun _ _ => ⟨rfl, e671, (by decide : 4 + 0 ≤ _), (by decide : 76 + 0 ≤ _)⟩)
      dsimp only [Pt.U, Pt.locs, Pt.cells, Pt.slots] at X695 l695 y695 z695 st695 hQ695
      obtain rfl : k695 = 4 := y695
      obtain rfl : n695 = 76 := z695
      obtain ⟨rfl, N695q, e695⟩ := hQ695
      have N695 : Fr n0 L695 := by rw [l695]; exact Fr.app N671 N695q
      have G696 : Go p e below A0 (T695.setTop (mkF m 210 #[.val (.int p0), .val (.int p1), .val (.int p2), .val (.int p3), .val (.ref b571), .val (.ref b594), .val (.int (p3 &&& (3 : Int32))), .val (.int (((p3.toUInt32 >>> ((2 : Int32) &&& 31).toUInt32).toInt32) &&& (3 : Int32))), .val (.int ff), .val (.int nn), .val (.ref b621), .val (.int (own_b (¬ (1 : Int32) = (3 : Int32)))), .val (.int s2), .unset, .unset, .unset] [(.int (own_b (own_W (tt (s2).toNatClampNeg))))])) := fun tq kq => G694 tq (st695 _ kq)
      by_cases hc697 : (own_W (tt (s2).toNatClampNeg))
      · have G698 : Go p e below A0 (T695.setTop (mkF m 216 #[.val (.int p0), .val (.int p1), .val (.int p2), .val (.int p3), .val (.ref b571), .val (.ref b594), .val (.int (p3 &&& (3 : Int32))), .val (.int (((p3.toUInt32 >>> ((2 : Int32) &&& 31).toUInt32).toInt32) &&& (3 : Int32))), .val (.int ff), .val (.int nn), .val (.ref b621), .val (.int (own_b (¬ (1 : Int32) = (3 : Int32)))), .val (.int s2), .unset, .unset, .unset] [])) := fun tq kq => G696 tq (by
          refine XS.ifYes X695.here hx rfl (pc0 := 210) (pc' := 216) rfl (hb hby at_210) rfl ((if0 _ _).trans (feq (own_b1 hc697)).2) (by decide) (by decide) ?_
          show Steps p.tables e below (T695.setTop (mkF m 216 #[.val (.int p0), .val (.int p1), .val (.int p2), .val (.int p3), .val (.ref b571), .val (.ref b594), .val (.int (p3 &&& (3 : Int32))), .val (.int (((p3.toUInt32 >>> ((2 : Int32) &&& 31).toUInt32).toInt32) &&& (3 : Int32))), .val (.int ff), .val (.int nn), .val (.ref b621), .val (.int (own_b (¬ (1 : Int32) = (3 : Int32)))), .val (.int s2), .unset, .unset, .unset] [])) _
          exact kq)
        exact ⟨T695, _, s2, X695, e695, N695, (by exact ⟨by simp only [own_b, own_st, hc688, hc697, not_true_eq_false, not_false_eq_true, if_true, if_false, or_true, true_or, or_false, false_or, and_true, true_and, and_false, false_and, and_self, or_self], zs2, ls2⟩), G698⟩
      · have G699 : Go p e below A0 (T695.setTop (mkF m 216 #[.val (.int p0), .val (.int p1), .val (.int p2), .val (.int p3), .val (.ref b571), .val (.ref b594), .val (.int (p3 &&& (3 : Int32))), .val (.int (((p3.toUInt32 >>> ((2 : Int32) &&& 31).toUInt32).toInt32) &&& (3 : Int32))), .val (.int ff), .val (.int nn), .val (.ref b621), .val (.int (own_b (¬ (1 : Int32) = (3 : Int32)))), .val (.int (s2 + (1 : Int32))), .unset, .unset, .unset] [])) := fun tq kq => G696 tq (by
          refine XS.ifNo X695.here hx rfl (hb hby at_210) rfl ((if0 _ _).trans (teq (own_b0 hc697)).2) ?_
          show Steps p.tables e below (T695.setTop (mkF m 213 #[.val (.int p0), .val (.int p1), .val (.int p2), .val (.int p3), .val (.ref b571), .val (.ref b594), .val (.int (p3 &&& (3 : Int32))), .val (.int (((p3.toUInt32 >>> ((2 : Int32) &&& 31).toUInt32).toInt32) &&& (3 : Int32))), .val (.int ff), .val (.int nn), .val (.ref b621), .val (.int (own_b (¬ (1 : Int32) = (3 : Int32)))), .val (.int s2), .unset, .unset, .unset] [])) _
          refine XS.iinc X695.here hx rfl (hb hby at_213) rfl (l' := #[.val (.int p0), .val (.int p1), .val (.int p2), .val (.int p3), .val (.ref b571), .val (.ref b594), .val (.int (p3 &&& (3 : Int32))), .val (.int (((p3.toUInt32 >>> ((2 : Int32) &&& 31).toUInt32).toInt32) &&& (3 : Int32))), .val (.int ff), .val (.int nn), .val (.ref b621), .val (.int (own_b (¬ (1 : Int32) = (3 : Int32)))), .val (.int (s2 + (1 : Int32))), .unset, .unset, .unset]) rfl ?_
          show Steps p.tables e below (T695.setTop (mkF m 216 #[.val (.int p0), .val (.int p1), .val (.int p2), .val (.int p3), .val (.ref b571), .val (.ref b594), .val (.int (p3 &&& (3 : Int32))), .val (.int (((p3.toUInt32 >>> ((2 : Int32) &&& 31).toUInt32).toInt32) &&& (3 : Int32))), .val (.int ff), .val (.int nn), .val (.ref b621), .val (.int (own_b (¬ (1 : Int32) = (3 : Int32)))), .val (.int (s2 + (1 : Int32))), .unset, .unset, .unset] [])) _
          exact kq)
        exact ⟨T695, _, (s2 + (1 : Int32)), X695, e695, N695, (by exact ⟨by simp only [own_b, own_st, hc688, hc697, not_true_eq_false, not_false_eq_true, if_true, if_false, or_true, true_or, or_false, false_or, and_true, true_and, and_false, false_and, and_self, or_self], zi693, li693⟩), G699⟩
    · have G700 : Go p e below A0 (T671.setTop (mkF m 216 #[.val (.int p0), .val (.int p1), .val (.int p2), .val (.int p3), .val (.ref b571), .val (.ref b594), .val (.int (p3 &&& (3 : Int32))), .val (.int (((p3.toUInt32 >>> ((2 : Int32) &&& 31).toUInt32).toInt32) &&& (3 : Int32))), .val (.int ff), .val (.int nn), .val (.ref b621), .val (.int (own_b (¬ (1 : Int32) = (3 : Int32)))), .val (.int s2), .unset, .unset, .unset] [])) := fun tq kq => G687 tq (by
        refine XS.icmpYes X671.here hx rfl (pc0 := 199) (pc' := 216) rfl (hb hby at_199) rfl (flt hc688).2.1 (by decide) (by decide) ?_
        show Steps p.tables e below (T671.setTop (mkF m 216 #[.val (.int p0), .val (.int p1), .val (.int p2), .val (.int p3), .val (.ref b571), .val (.ref b594), .val (.int (p3 &&& (3 : Int32))), .val (.int (((p3.toUInt32 >>> ((2 : Int32) &&& 31).toUInt32).toInt32) &&& (3 : Int32))), .val (.int ff), .val (.int nn), .val (.ref b621), .val (.int (own_b (¬ (1 : Int32) = (3 : Int32)))), .val (.int s2), .unset, .unset, .unset] [])) _
        exact kq)
      exact ⟨T671, _, s2, X671, e671, N671, (by exact ⟨by simp only [own_b, own_st, hc688, not_true_eq_false, not_false_eq_true, if_true, if_false, or_true, true_or, or_false, false_or, and_true, true_and, and_false, false_and, and_self, or_self], zs2, ls2⟩), G700⟩
  obtain ⟨hs3, zs3, ls3⟩ := hG686
  have G701 : Go p e below A0 (T686.setTop (mkF m 220 #[.val (.int p0), .val (.int p1), .val (.int p2), .val (.int p3), .val (.ref b571), .val (.ref b594), .val (.int (p3 &&& (3 : Int32))), .val (.int (((p3.toUInt32 >>> ((2 : Int32) &&& 31).toUInt32).toInt32) &&& (3 : Int32))), .val (.int ff), .val (.int nn), .val (.ref b621), .val (.int (own_b (¬ (1 : Int32) = (3 : Int32)))), .val (.int s3), .val (.int s3), .unset, .unset] [])) := fun tq kq => G686 tq (by
    refine XS.iload X686.here hx rfl (hb hby at_216) rfl ?_
    show Steps p.tables e below (T686.setTop (mkF m 218 #[.val (.int p0), .val (.int p1), .val (.int p2), .val (.int p3), .val (.ref b571), .val (.ref b594), .val (.int (p3 &&& (3 : Int32))), .val (.int (((p3.toUInt32 >>> ((2 : Int32) &&& 31).toUInt32).toInt32) &&& (3 : Int32))), .val (.int ff), .val (.int nn), .val (.ref b621), .val (.int (own_b (¬ (1 : Int32) = (3 : Int32)))), .val (.int s3), .unset, .unset, .unset] [(.int s3)])) _
    refine XS.istore X686.here hx rfl (hb hby at_218) rfl (l' := #[.val (.int p0), .val (.int p1), .val (.int p2), .val (.int p3), .val (.ref b571), .val (.ref b594), .val (.int (p3 &&& (3 : Int32))), .val (.int (((p3.toUInt32 >>> ((2 : Int32) &&& 31).toUInt32).toInt32) &&& (3 : Int32))), .val (.int ff), .val (.int nn), .val (.ref b621), .val (.int (own_b (¬ (1 : Int32) = (3 : Int32)))), .val (.int s3), .val (.int s3), .unset, .unset]) rfl ?_
    show Steps p.tables e below (T686.setTop (mkF m 220 #[.val (.int p0), .val (.int p1), .val (.int p2), .val (.int p3), .val (.ref b571), .val (.ref b594), .val (.int (p3 &&& (3 : Int32))), .val (.int (((p3.toUInt32 >>> ((2 : Int32) &&& 31).toUInt32).toInt32) &&& (3 : Int32))), .val (.int ff), .val (.int nn), .val (.ref b621), .val (.int (own_b (¬ (1 : Int32) = (3 : Int32)))), .val (.int s3), .val (.int s3), .unset, .unset] [])) _
    exact kq)
  obtain ⟨T702, Lc702, e1, X702, e702, N702, hG702, G702⟩ : ∃ (T702 : State) (Lc702 : List Loc) (e1 : Int32), Stand p l e room_1 s m #[(.int p0), (.int p1), (.int p2), (.int p3)] below meth c T702 Lc702 4 76 ∧ T702.heap = T648.heap ∧ Fr n0 Lc702 ∧ (e1 = own_en tt nn s3 ∧ ¬ e1 < 0 ∧ ¬ nn < e1) ∧ Go p e below A0 (T702.setTop (mkF m 241 #[.val (.int p0), .val (.int p1), .val (.int p2), .val (.int p3), .val (.ref b571), .val (.ref b594), .val (.int (p3 &&& (3 : Int32))), .val (.int (((p3.toUInt32 >>> ((2 : Int32) &&& 31).toUInt32).toInt32) &&& (3 : Int32))), .val (.int ff), .val (.int nn), .val (.ref b621), .val (.int (own_b (¬ (1 : Int32) = (3 : Int32)))), .val (.int s3), .val (.int e1), .unset, .unset] [])) := by
    have G703 : Go p e below A0 (T686.setTop (mkF m 224 #[.val (.int p0), .val (.int p1), .val (.int p2), .val (.int p3), .val (.ref b571), .val (.ref b594), .val (.int (p3 &&& (3 : Int32))), .val (.int (((p3.toUInt32 >>> ((2 : Int32) &&& 31).toUInt32).toInt32) &&& (3 : Int32))), .val (.int ff), .val (.int nn), .val (.ref b621), .val (.int (own_b (¬ (1 : Int32) = (3 : Int32)))), .val (.int s3), .val (.int s3), .unset, .unset] [(.int nn), (.int s3)])) := fun tq kq => G701 tq (by
      refine XS.iload X686.here hx rfl (hb hby at_220) rfl ?_
      show Steps p.tables e below (T686.setTop (mkF m 222 #[.val (.int p0), .val (.int p1), .val (.int p2), .val (.int p3), .val (.ref b571), .val (.ref b594), .val (.int (p3 &&& (3 : Int32))), .val (.int (((p3.toUInt32 >>> ((2 : Int32) &&& 31).toUInt32).toInt32) &&& (3 : Int32))), .val (.int ff), .val (.int nn), .val (.ref b621), .val (.int (own_b (¬ (1 : Int32) = (3 : Int32)))), .val (.int s3), .val (.int s3), .unset, .unset] [(.int s3)])) _
      refine XS.iload X686.here hx rfl (hb hby at_222) rfl ?_
      show Steps p.tables e below (T686.setTop (mkF m 224 #[.val (.int p0), .val (.int p1), .val (.int p2), .val (.int p3), .val (.ref b571), .val (.ref b594), .val (.int (p3 &&& (3 : Int32))), .val (.int (((p3.toUInt32 >>> ((2 : Int32) &&& 31).toUInt32).toInt32) &&& (3 : Int32))), .val (.int ff), .val (.int nn), .val (.ref b621), .val (.int (own_b (¬ (1 : Int32) = (3 : Int32)))), .val (.int s3), .val (.int s3), .unset, .unset] [(.int nn), (.int s3)])) _
      exact kq)
    by_cases hc704 : s3 < nn
    · have G705 : Go p e below A0 (T686.setTop (mkF m 231 #[.val (.int p0), .val (.int p1), .val (.int p2), .val (.int p3), .val (.ref b571), .val (.ref b594), .val (.int (p3 &&& (3 : Int32))), .val (.int (((p3.toUInt32 >>> ((2 : Int32) &&& 31).toUInt32).toInt32) &&& (3 : Int32))), .val (.int ff), .val (.int nn), .val (.ref b621), .val (.int (own_b (¬ (1 : Int32) = (3 : Int32)))), .val (.int s3), .val (.int s3), .unset, .unset] [(.int s3), (.ref b594)])) := fun tq kq => G703 tq (by
        refine XS.icmpNo X686.here hx rfl (hb hby at_224) rfl (tlt hc704).2.1 ?_
        show Steps p.tables e below (T686.setTop (mkF m 227 #[.val (.int p0), .val (.int p1), .val (.int p2), .val (.int p3), .val (.ref b571), .val (.ref b594), .val (.int (p3 &&& (3 : Int32))), .val (.int (((p3.toUInt32 >>> ((2 : Int32) &&& 31).toUInt32).toInt32) &&& (3 : Int32))), .val (.int ff), .val (.int nn), .val (.ref b621), .val (.int (own_b (¬ (1 : Int32) = (3 : Int32)))), .val (.int s3), .val (.int s3), .unset, .unset] [])) _
        refine XS.aload X686.here hx rfl (hb hby at_227) rfl rfl ?_
        show Steps p.tables e below (T686.setTop (mkF m 229 #[.val (.int p0), .val (.int p1), .val (.int p2), .val (.int p3), .val (.ref b571), .val (.ref b594), .val (.int (p3 &&& (3 : Int32))), .val (.int (((p3.toUInt32 >>> ((2 : Int32) &&& 31).toUInt32).toInt32) &&& (3 : Int32))), .val (.int ff), .val (.int nn), .val (.ref b621), .val (.int (own_b (¬ (1 : Int32) = (3 : Int32)))), .val (.int s3), .val (.int s3), .unset, .unset] [(.ref b594)])) _
        refine XS.iload X686.here hx rfl (hb hby at_229) rfl ?_
        show Steps p.tables e below (T686.setTop (mkF m 231 #[.val (.int p0), .val (.int p1), .val (.int p2), .val (.int p3), .val (.ref b571), .val (.ref b594), .val (.int (p3 &&& (3 : Int32))), .val (.int (((p3.toUInt32 >>> ((2 : Int32) &&& 31).toUInt32).toInt32) &&& (3 : Int32))), .val (.int ff), .val (.int nn), .val (.ref b621), .val (.int (own_b (¬ (1 : Int32) = (3 : Int32)))), .val (.int s3), .val (.int s3), .unset, .unset] [(.int s3), (.ref b594)])) _
        exact kq)
      have f706 := (((((Att.ext E621).keep K625 (ninS (Nat.ne_of_lt lt_b594_b621) nin0)).keep K630 (ninS (Nat.ne_of_lt lt_b594_b621) nin0)).keep K635 (ninS (Nat.ne_of_lt lt_b594_b621) (ninS (Nat.ne_of_lt lt_b594_wb) nin0))).keep K648 (ninS (Nat.ne_of_lt lt_b594_b621) nin0))
      obtain ⟨cl707, Ar707, q707, S707, M707, H707⟩ := id f706
      have i709 : ¬ s3 < 0 ∧ s3 < (3 : Int32) := ⟨zs3, own_ltt hc704 hn3⟩
      have ri709 := htt _ (own_natl i709.1 i709.2)
      have zi709 := own_pos zs3 hc704
      have li709 := own_nlt1 hc704
      have hi708 : ¬ (s3 < 0 ∨ cl707.slots.size ≤ (s3).toNatClampNeg) := (inb_of S707 i709)
      have G710 : Go p e below A0 (T686.setTop (mkF m 232 #[.val (.int p0), .val (.int p1), .val (.int p2), .val (.int p3), .val (.ref b571), .val (.ref b594), .val (.int (p3 &&& (3 : Int32))), .val (.int (((p3.toUInt32 >>> ((2 : Int32) &&& 31).toUInt32).toInt32) &&& (3 : Int32))), .val (.int ff), .val (.int nn), .val (.ref b621), .val (.int (own_b (¬ (1 : Int32) = (3 : Int32)))), .val (.int s3), .val (.int s3), .unset, .unset] [(.int (tt (s3).toNatClampNeg))])) := fun tq kq => G705 tq (by
        refine X686.caload hx (j := s3) (v := (.int (tt (s3).toNatClampNeg))) (by rw [e686]; exact Ar707.1) (State.isArrayOf_alike hZ.alike Ar707.2.1) Ar707.2.2 hi708 ((H707 _ (S707 ▸ Nat.lt_of_not_le fun y => hi708 (Or.inr y))).trans (congrArg some rfl)) (g := (mkF m 231 #[.val (.int p0), .val (.int p1), .val (.int p2), .val (.int p3), .val (.ref b571), .val (.ref b594), .val (.int (p3 &&& (3 : Int32))), .val (.int (((p3.toUInt32 >>> ((2 : Int32) &&& 31).toUInt32).toInt32) &&& (3 : Int32))), .val (.int ff), .val (.int nn), .val (.ref b621), .val (.int (own_b (¬ (1 : Int32) = (3 : Int32)))), .val (.int s3), .val (.int s3), .unset, .unset] [(.int s3), (.ref b594)])) rfl rfl (hb hby at_231) _ ?_
        show Steps p.tables e below (T686.setTop (mkF m 232 #[.val (.int p0), .val (.int p1), .val (.int p2), .val (.int p3), .val (.ref b571), .val (.ref b594), .val (.int (p3 &&& (3 : Int32))), .val (.int (((p3.toUInt32 >>> ((2 : Int32) &&& 31).toUInt32).toInt32) &&& (3 : Int32))), .val (.int ff), .val (.int nn), .val (.ref b621), .val (.int (own_b (¬ (1 : Int32) = (3 : Int32)))), .val (.int s3), .val (.int s3), .unset, .unset] [(.int (tt (s3).toNatClampNeg))])) _
        exact kq)
      obtain ⟨_, _, ⟨T711, L711, k711, n711⟩, -, X711, ⟨Lc711, hQ711, l711, y711, z711⟩, st711⟩ := Jvm.LawKit.callS X686 hx (y := (⟨"com/example/subtree/subtree/index/PlainWordsResetPinLaw", "isWord", "(C)Z"⟩ : MethodName)) hown (mvT hZ (hw _ (List.mem_of_getElem? (i := 45) rfl))) (mvT hZ (hw _ (List.mem_of_getElem? (i := 46) rfl))) (mvT hZ (hw _ (List.mem_of_getElem? (i := 47) rfl))) (mvT hZ (hw _ (List.mem_of_getElem? (i := 48) rfl))) (by decide) (backOf (W := 0) (rmIW l Z a0 hw [] (tt (s3).toNatClampNeg) T648.heap n0 f652) hZ (hw _ (List.mem_of_getElem? (i := 48) rfl)) (hw _ (List.mem_of_getElem? (i := 47) rfl)) (by decide) (by decide)) (g := (mkF m 232 #[.val (.int p0), .val (.int p1), .val (.int p2), .val (.int p3), .val (.ref b571), .val (.ref b594), .val (.int (p3 &&& (3 : Int32))), .val (.int (((p3.toUInt32 >>> ((2 : Int32) &&& 31).toUInt32).toInt32) &&& (3 : Int32))), .val (.int ff), .val (.int nn), .val (.ref b621), .val (.int (own_b (¬ (1 : Int32) = (3 : Int32)))), .val (.int s3), .val (.int s3), .unset, .unset] [(.int (tt (s3).toNatClampNeg))])) rfl (by rw [hml]; rfl) (argsL := [(.int (tt (s3).toNatClampNeg))]) (rest := []) (lenOf pd_6 rfl) rfl (by show 2 * 0 + _ ≤ _; exact Nat.le_of_eq rfl) (hb hby at_232) (fun _ _ => ⟨rfl, e686, (by decide : 4 + 0 ≤ _), (by decide : 76 + 0 ≤ _)⟩)
      dsimp only [Pt.U, Pt.locs, Pt.cells, Pt.slots] at X711 l711 y711 z711 st711 hQ711
      obtain rfl : k711 = 4 := y711
      obtain rfl : n711 = 76 := z711
      obtain ⟨rfl, N711q, e711⟩ := hQ711
      have N711 : Fr n0 L711 := by rw [l711]; exact Fr.app N686 N711q
      have G712 : Go p e below A0 (T711.setTop (mkF m 235 #[.val (.int p0), .val (.int p1), .val (.int p2), .val (.int p3), .val (.ref b571), .val (.ref b594), .val (.int (p3 &&& (3 : Int32))), .val (.int (((p3.toUInt32 >>> ((2 : Int32) &&& 31).toUInt32).toInt32) &&& (3 : Int32))), .val (.int ff), .val (.int nn), .val (.ref b621), .val (.int (own_b (¬ (1 : Int32) = (3 : Int32)))), .val (.int s3), .val (.int s3), .unset, .unset] [(.int (own_b (own_W (tt (s3).toNatClampNeg))))])) := fun tq kq => G710 tq (st711 _ kq)
      by_cases hc713 : (own_W (tt (s3).toNatClampNeg))
      · have G714 : Go p e below A0 (T711.setTop (mkF m 241 #[.val (.int p0), .val (.int p1), .val (.int p2), .val (.int p3), .val (.ref b571), .val (.ref b594), .val (.int (p3 &&& (3 : Int32))), .val (.int (((p3.toUInt32 >>> ((2 : Int32) &&& 31).toUInt32).toInt32) &&& (3 : Int32))), .val (.int ff), .val (.int nn), .val (.ref b621), .val (.int (own_b (¬ (1 : Int32) = (3 : Int32)))), .val (.int s3), .val (.int (s3 + (1 : Int32))), .unset, .unset] [])) := fun tq kq => G712 tq (by
          refine XS.ifNo X711.here hx rfl (hb hby at_235) rfl ((if0 _ _).trans (feq (own_b1 hc713)).1) ?_
          show Steps p.tables e below (T711.setTop (mkF m 238 #[.val (.int p0), .val (.int p1), .val (.int p2), .val (.int p3), .val (.ref b571), .val (.ref b594), .val (.int (p3 &&& (3 : Int32))), .val (.int (((p3.toUInt32 >>> ((2 : Int32) &&& 31).toUInt32).toInt32) &&& (3 : Int32))), .val (.int ff), .val (.int nn), .val (.ref b621), .val (.int (own_b (¬ (1 : Int32) = (3 : Int32)))), .val (.int s3), .val (.int s3), .unset, .unset] [])) _
          refine XS.iinc X711.here hx rfl (hb hby at_238) rfl (l' := #[.val (.int p0), .val (.int p1), .val (.int p2), .val (.int p3), .val (.ref b571), .val (.ref b594), .val (.int (p3 &&& (3 : Int32))), .val (.int (((p3.toUInt32 >>> ((2 : Int32) &&& 31).toUInt32).toInt32) &&& (3 : Int32))), .val (.int ff), .val (.int nn), .val (.ref b621), .val (.int (own_b (¬ (1 : Int32) = (3 : Int32)))), .val (.int s3), .val (.int (s3 + (1 : Int32))), .unset, .unset]) rfl ?_
          show Steps p.tables e below (T711.setTop (mkF m 241 #[.val (.int p0), .val (.int p1), .val (.int p2), .val (.int p3), .val (.ref b571), .val (.ref b594), .val (.int (p3 &&& (3 : Int32))), .val (.int (((p3.toUInt32 >>> ((2 : Int32) &&& 31).toUInt32).toInt32) &&& (3 : Int32))), .val (.int ff), .val (.int nn), .val (.ref b621), .val (.int (own_b (¬ (1 : Int32) = (3 : Int32)))), .val (.int s3), .val (.int (s3 + (1 : Int32))), .unset, .unset] [])) _
          exact kq)
        exact ⟨T711, _, (s3 + (1 : Int32)), X711, e711, N711, (by exact ⟨by simp only [own_b, own_en, hc704, hc713, not_true_eq_false, not_false_eq_true, if_true, if_false, or_true, true_or, or_false, false_or, and_true, true_and, and_false, false_and, and_self, or_self], zi709, li709⟩), G714⟩
      · have G715 : Go p e below A0 (T711.setTop (mkF m 241 #[.val (.int p0), .val (.int p1), .val (.int p2), .val (.int p3), .val (.ref b571), .val (.ref b594), .val (.int (p3 &&& (3 : Int32))), .val (.int (((p3.toUInt32 >>> ((2 : Int32) &&& 31).toUInt32).toInt32) &&& (3 : Int32))), .val (.int ff), .val (.int nn), .val (.ref b621), .val (.int (own_b (¬ (1 : Int32) = (3 : Int32)))), .val (.int s3), .val (.int s3), .unset, .unset] [])) := fun tq kq => G712 tq (by
          refine XS.ifYes X711.here hx rfl (pc0 := 235) (pc' := 241) rfl (hb hby at_235) rfl ((if0 _ _).trans (teq (own_b0 hc713)).1) (by decide) (by decide) ?_
          show Steps p.tables e below (T711.setTop (mkF m 241 #[.val (.int p0), .val (.int p1), .val (.int p2), .val (.int p3), .val (.ref b571), .val (.ref b594), .val (.int (p3 &&& (3 : Int32))), .val (.int (((p3.toUInt32 >>> ((2 : Int32) &&& 31).toUInt32).toInt32) &&& (3 : Int32))), .val (.int ff), .val (.int nn), .val (.ref b621), .val (.int (own_b (¬ (1 : Int32) = (3 : Int32)))), .val (.int s3), .val (.int s3), .unset, .unset] [])) _
          exact kq)
        exact ⟨T711, _, s3, X711, e711, N711, (by exact ⟨by simp only [own_b, own_en, hc704, hc713, not_true_eq_false, not_false_eq_true, if_true, if_false, or_true, true_or, or_false, false_or, and_true, true_and, and_false, false_and, and_self, or_self], zs3, ls3⟩), G715⟩
    · have G716 : Go p e below A0 (T686.setTop (mkF m 241 #[.val (.int p0), .val (.int p1), .val (.int p2), .val (.int p3), .val (.ref b571), .val (.ref b594), .val (.int (p3 &&& (3 : Int32))), .val (.int (((p3.toUInt32 >>> ((2 : Int32) &&& 31).toUInt32).toInt32) &&& (3 : Int32))), .val (.int ff), .val (.int nn), .val (.ref b621), .val (.int (own_b (¬ (1 : Int32) = (3 : Int32)))), .val (.int s3), .val (.int s3), .unset, .unset] [])) := fun tq kq => G703 tq (by
        refine XS.icmpYes X686.here hx rfl (pc0 := 224) (pc' := 241) rfl (hb hby at_224) rfl (flt hc704).2.1 (by decide) (by decide) ?_
        show Steps p.tables e below (T686.setTop (mkF m 241 #[.val (.int p0), .val (.int p1), .val (.int p2), .val (.int p3), .val (.ref b571), .val (.ref b594), .val (.int (p3 &&& (3 : Int32))), .val (.int (((p3.toUInt32 >>> ((2 : Int32) &&& 31).toUInt32).toInt32) &&& (3 : Int32))), .val (.int ff), .val (.int nn), .val (.ref b621), .val (.int (own_b (¬ (1 : Int32) = (3 : Int32)))), .val (.int s3), .val (.int s3), .unset, .unset] [])) _
        exact kq)
      exact ⟨T686, _, s3, X686, e686, N686, (by exact ⟨by simp only [own_b, own_en, hc704, not_true_eq_false, not_false_eq_true, if_true, if_false, or_true, true_or, or_false, false_or, and_true, true_and, and_false, false_and, and_self, or_self], zs3, ls3⟩), G716⟩
  obtain ⟨he1, ze1, le1⟩ := hG702
  obtain ⟨T717, Lc717, e2, X717, e717, N717, hG717, G717⟩ : ∃ (T717 : State) (Lc717 : List Loc) (e2 : Int32), Stand p l e room_1 s m #[(.int p0), (.int p1), (.int p2), (.int p3)] below meth c T717 Lc717 4 76 ∧ T717.heap = T648.heap ∧ Fr n0 Lc717 ∧ (e2 = own_en tt nn e1 ∧ ¬ e2 < 0 ∧ ¬ nn < e2) ∧ Go p e below A0 (T717.setTop (mkF m 262 #[.val (.int p0), .val (.int p1), .val (.int p2), .val (.int p3), .val (.ref b571), .val (.ref b594), .val (.int (p3 &&& (3 : Int32))), .val (.int (((p3.toUInt32 >>> ((2 : Int32) &&& 31).toUInt32).toInt32) &&& (3 : Int32))), .val (.int ff), .val (.int nn), .val (.ref b621), .val (.int (own_b (¬ (1 : Int32) = (3 : Int32)))), .val (.int s3), .val (.int e2), .unset, .unset] [])) := by
    have G718 : Go p e below A0 (T702.setTop (mkF m 245 #[.val (.int p0), .val (.int p1), .val (.int p2), .val (.int p3), .val (.ref b571), .val (.ref b594), .val (.int (p3 &&& (3 : Int32))), .val (.int (((p3.toUInt32 >>> ((2 : Int32) &&& 31).toUInt32).toInt32) &&& (3 : Int32))), .val (.int ff), .val (.int nn), .val (.ref b621), .val (.int (own_b (¬ (1 : Int32) = (3 : Int32)))), .val (.int s3), .val (.int e1), .unset, .unset] [(.int nn), (.int e1)])) := fun tq kq => G702 tq (by
      refine XS.iload X702.here hx rfl (hb hby at_241) rfl ?_
      show Steps p.tables e below (T702.setTop (mkF m 243 #[.val (.int p0), .val (.int p1), .val (.int p2), .val (.int p3), .val (.ref b571), .val (.ref b594), .val (.int (p3 &&& (3 : Int32))), .val (.int (((p3.toUInt32 >>> ((2 : Int32) &&& 31).toUInt32).toInt32) &&& (3 : Int32))), .val (.int ff), .val (.int nn), .val (.ref b621), .val (.int (own_b (¬ (1 : Int32) = (3 : Int32)))), .val (.int s3), .val (.int e1), .unset, .unset] [(.int e1)])) _
      refine XS.iload X702.here hx rfl (hb hby at_243) rfl ?_
      show Steps p.tables e below (T702.setTop (mkF m 245 #[.val (.int p0), .val (.int p1), .val (.int p2), .val (.int p3), .val (.ref b571), .val (.ref b594), .val (.int (p3 &&& (3 : Int32))), .val (.int (((p3.toUInt32 >>> ((2 : Int32) &&& 31).toUInt32).toInt32) &&& (3 : Int32))), .val (.int ff), .val (.int nn), .val (.ref b621), .val (.int (own_b (¬ (1 : Int32) = (3 : Int32)))), .val (.int s3), .val (.int e1), .unset, .unset] [(.int nn), (.int e1)])) _
      exact kq)
    by_cases hc719 : e1 < nn
    · have G720 : Go p e below A0 (T702.setTop (mkF m 252 #[.val (.int p0), .val (.int p1), .val (.int p2), .val (.int p3), .val (.ref b571), .val (.ref b594), .val (.int (p3 &&& (3 : Int32))), .val (.int (((p3.toUInt32 >>> ((2 : Int32) &&& 31).toUInt32).toInt32) &&& (3 : Int32))), .val (.int ff), .val (.int nn), .val (.ref b621), .val (.int (own_b (¬ (1 : Int32) = (3 : Int32)))), .val (.int s3), .val (.int e1), .unset, .unset] [(.int e1), (.ref b594)])) := fun tq kq => G718 tq (by
        refine XS.icmpNo X702.here hx rfl (hb hby at_245) rfl (tlt hc719).2.1 ?_
        show Steps p.tables e below (T702.setTop (mkF m 248 #[.val (.int p0), .val (.int p1), .val (.int p2), .val (.int p3), .val (.ref b571), .val (.ref b594), .val (.int (p3 &&& (3 : Int32))), .val (.int (((p3.toUInt32 >>> ((2 : Int32) &&& 31).toUInt32).toInt32) &&& (3 : Int32))), .val (.int ff), .val (.int nn), .val (.ref b621), .val (.int (own_b (¬ (1 : Int32) = (3 : Int32)))), .val (.int s3), .val (.int e1), .unset, .unset] [])) _
        refine XS.aload X702.here hx rfl (hb hby at_248) rfl rfl ?_
        show Steps p.tables e below (T702.setTop (mkF m 250 #[.val (.int p0), .val (.int p1), .val (.int p2), .val (.int p3), .val (.ref b571), .val (.ref b594), .val (.int (p3 &&& (3 : Int32))), .val (.int (((p3.toUInt32 >>> ((2 : Int32) &&& 31).toUInt32).toInt32) &&& (3 : Int32))), .val (.int ff), .val (.int nn), .val (.ref b621), .val (.int (own_b (¬ (1 : Int32) = (3 : Int32)))), .val (.int s3), .val (.int e1), .unset, .unset] [(.ref b594)])) _
        refine XS.iload X702.here hx rfl (hb hby at_250) rfl ?_
        show Steps p.tables e below (T702.setTop (mkF m 252 #[.val (.int p0), .val (.int p1), .val (.int p2), .val (.int p3), .val (.ref b571), .val (.ref b594), .val (.int (p3 &&& (3 : Int32))), .val (.int (((p3.toUInt32 >>> ((2 : Int32) &&& 31).toUInt32).toInt32) &&& (3 : Int32))), .val (.int ff), .val (.int nn), .val (.ref b621), .val (.int (own_b (¬ (1 : Int32) = (3 : Int32)))), .val (.int s3), .val (.int e1), .unset, .unset] [(.int e1), (.ref b594)])) _
        exact kq)
      have f721 := (((((Att.ext E621).keep K625 (ninS (Nat.ne_of_lt lt_b594_b621) nin0)).keep K630 (ninS (Nat.ne_of_lt lt_b594_b621) nin0)).keep K635 (ninS (Nat.ne_of_lt lt_b594_b621) (ninS (Nat.ne_of_lt lt_b594_wb) nin0))).keep K648 (ninS (Nat.ne_of_lt lt_b594_b621) nin0))
      obtain ⟨cl722, Ar722, q722, S722, M722, H722⟩ := id f721
      have i724 : ¬ e1 < 0 ∧ e1 < (3 : Int32) := ⟨ze1, own_ltt hc719 hn3⟩
      have ri724 := htt _ (own_natl i724.1 i724.2)
      have zi724 := own_pos ze1 hc719
      have li724 := own_nlt1 hc719
      have hi723 : ¬ (e1 < 0 ∨ cl722.slots.size ≤ (e1).toNatClampNeg) := (inb_of S722 i724)
      have G725 : Go p e below A0 (T702.setTop (mkF m 253 #[.val (.int p0), .val (.int p1), .val (.int p2), .val (.int p3), .val (.ref b571), .val (.ref b594), .val (.int (p3 &&& (3 : Int32))), .val (.int (((p3.toUInt32 >>> ((2 : Int32) &&& 31).toUInt32).toInt32) &&& (3 : Int32))), .val (.int ff), .val (.int nn), .val (.ref b621), .val (.int (own_b (¬ (1 : Int32) = (3 : Int32)))), .val (.int s3), .val (.int e1), .unset, .unset] [(.int (tt (e1).toNatClampNeg))])) := fun tq kq => G720 tq (by
        refine X702.caload hx (j := e1) (v := (.int (tt (e1).toNatClampNeg))) (by rw [e702]; exact Ar722.1) (State.isArrayOf_alike hZ.alike Ar722.2.1) Ar722.2.2 hi723 ((H722 _ (S722 ▸ Nat.lt_of_not_le fun y => hi723 (Or.inr y))).trans (congrArg some rfl)) (g := (mkF m 252 #[.val (.int p0), .val (.int p1), .val (.int p2), .val (.int p3), .val (.ref b571), .val (.ref b594), .val (.int (p3 &&& (3 : Int32))), .val (.int (((p3.toUInt32 >>> ((2 : Int32) &&& 31).toUInt32).toInt32) &&& (3 : Int32))), .val (.int ff), .val (.int nn), .val (.ref b621), .val (.int (own_b (¬ (1 : Int32) = (3 : Int32)))), .val (.int s3), .val (.int e1), .unset, .unset] [(.int e1), (.ref b594)])) rfl rfl (hb hby at_252) _ ?_
        show Steps p.tables e below (T702.setTop (mkF m 253 #[.val (.int p0), .val (.int p1), .val (.int p2), .val (.int p3), .val (.ref b571), .val (.ref b594), .val (.int (p3 &&& (3 : Int32))), .val (.int (((p3.toUInt32 >>> ((2 : Int32) &&& 31).toUInt32).toInt32) &&& (3 : Int32))), .val (.int ff), .val (.int nn), .val (.ref b621), .val (.int (own_b (¬ (1 : Int32) = (3 : Int32)))), .val (.int s3), .val (.int e1), .unset, .unset] [(.int (tt (e1).toNatClampNeg))])) _
        exact kq)
      obtain ⟨_, _, ⟨T726, L726, k726, n726⟩, -, X726, ⟨Lc726, hQ726, l726, y726, z726⟩, st726⟩ := Jvm.LawKit.callS X702 hx (y := (⟨"com/example/subtree/subtree/index/PlainWordsResetPinLaw", "isWord", "(C)Z"⟩ : MethodName)) hown (mvT hZ (hw _ (List.mem_of_getElem? (i := 45) rfl))) (mvT hZ (hw _ (List.mem_of_getElem? (i := 46) rfl))) (mvT hZ (hw _ (List.mem_of_getElem? (i := 47) rfl))) (mvT hZ (hw _ (List.mem_of_getElem? (i := 48) rfl))) (by decide) (backOf (W := 0) (rmIW l Z a0 hw [] (tt (e1).toNatClampNeg) T648.heap n0 f652) hZ (hw _ (List.mem_of_getElem? (i := 48) rfl)) (hw _ (List.mem_of_getElem? (i := 47) rfl)) (by decide) (by decide)) (g := (mkF m 253 #[.val (.int p0), .val (.int p1), .val (.int p2), .val (.int p3), .val (.ref b571), .val (.ref b594), .val (.int (p3 &&& (3 : Int32))), .val (.int (((p3.toUInt32 >>> ((2 : Int32) &&& 31).toUInt32).toInt32) &&& (3 : Int32))), .val (.int ff), .val (.int nn), .val (.ref b621), .val (.int (own_b (¬ (1 : Int32) = (3 : Int32)))), .val (.int s3), .val (.int e1), .unset, .unset] [(.int (tt (e1).toNatClampNeg))])) rfl (by rw [hml]; rfl) (argsL := [(.int (tt (e1).toNatClampNeg))]) (rest := []) (lenOf pd_6 rfl) rfl (by show 2 * 0 + _ ≤ _; exact Nat.le_of_eq rfl) (hb hby at_253) (fun _ _ => ⟨rfl, e702, (by decide : 4 + 0 ≤ _), (by decide : 76 + 0 ≤ _)⟩)
      dsimp only [Pt.U, Pt.locs, Pt.cells, Pt.slots] at X726 l726 y726 z726 st726 hQ726
      obtain rfl : k726 = 4 := y726
      obtain rfl : n726 = 76 := z726
      obtain ⟨rfl, N726q, e726⟩ := hQ726
      have N726 : Fr n0 L726 := by rw [l726]; exact Fr.app N702 N726q
      have G727 : Go p e below A0 (T726.setTop (mkF m 256 #[.val (.int p0), .val (.int p1), .val (.int p2), .val (.int p3), .val (.ref b571), .val (.ref b594), .val (.int (p3 &&& (3 : Int32))), .val (.int (((p3.toUInt32 >>> ((2 : Int32) &&& 31).toUInt32).toInt32) &&& (3 : Int32))), .val (.int ff), .val (.int nn), .val (.ref b621), .val (.int (own_b (¬ (1 : Int32) = (3 : Int32)))), .val (.int s3), .val (.int e1), .unset, .unset] [(.int (own_b (own_W (tt (e1).toNatClampNeg))))])) := fun tq kq => G725 tq (st726 _ kq)
      by_cases hc728 : (own_W (tt (e1).toNatClampNeg))
      · have G729 : Go p e below A0 (T726.setTop (mkF m 262 #[.val (.int p0), .val (.int p1), .val (.int p2), .val (.int p3), .val (.ref b571), .val (.ref b594), .val (.int (p3 &&& (3 : Int32))), .val (.int (((p3.toUInt32 >>> ((2 : Int32) &&& 31).toUInt32).toInt32) &&& (3 : Int32))), .val (.int ff), .val (.int nn), .val (.ref b621), .val (.int (own_b (¬ (1 : Int32) = (3 : Int32)))), .val (.int s3), .val (.int (e1 + (1 : Int32))), .unset, .unset] [])) := fun tq kq => G727 tq (by
          refine XS.ifNo X726.here hx rfl (hb hby at_256) rfl ((if0 _ _).trans (feq (own_b1 hc728)).1) ?_
          show Steps p.tables e below (T726.setTop (mkF m 259 #[.val (.int p0), .val (.int p1), .val (.int p2), .val (.int p3), .val (.ref b571), .val (.ref b594), .val (.int (p3 &&& (3 : Int32))), .val (.int (((p3.toUInt32 >>> ((2 : Int32) &&& 31).toUInt32).toInt32) &&& (3 : Int32))), .val (.int ff), .val (.int nn), .val (.ref b621), .val (.int (own_b (¬ (1 : Int32) = (3 : Int32)))), .val (.int s3), .val (.int e1), .unset, .unset] [])) _
          refine XS.iinc X726.here hx rfl (hb hby at_259) rfl (l' := #[.val (.int p0), .val (.int p1), .val (.int p2), .val (.int p3), .val (.ref b571), .val (.ref b594), .val (.int (p3 &&& (3 : Int32))), .val (.int (((p3.toUInt32 >>> ((2 : Int32) &&& 31).toUInt32).toInt32) &&& (3 : Int32))), .val (.int ff), .val (.int nn), .val (.ref b621), .val (.int (own_b (¬ (1 : Int32) = (3 : Int32)))), .val (.int s3), .val (.int (e1 + (1 : Int32))), .unset, .unset]) rfl ?_
          show Steps p.tables e below (T726.setTop (mkF m 262 #[.val (.int p0), .val (.int p1), .val (.int p2), .val (.int p3), .val (.ref b571), .val (.ref b594), .val (.int (p3 &&& (3 : Int32))), .val (.int (((p3.toUInt32 >>> ((2 : Int32) &&& 31).toUInt32).toInt32) &&& (3 : Int32))), .val (.int ff), .val (.int nn), .val (.ref b621), .val (.int (own_b (¬ (1 : Int32) = (3 : Int32)))), .val (.int s3), .val (.int (e1 + (1 : Int32))), .unset, .unset] [])) _
          exact kq)
        exact ⟨T726, _, (e1 + (1 : Int32)), X726, e726, N726, (by exact ⟨by simp only [own_b, own_en, hc719, hc728, not_true_eq_false, not_false_eq_true, if_true, if_false, or_true, true_or, or_false, false_or, and_true, true_and, and_false, false_and, and_self, or_self], zi724, li724⟩), G729⟩
      · have G730 : Go p e below A0 (T726.setTop (mkF m 262 #[.val (.int p0), .val (.int p1), .val (.int p2), .val (.int p3), .val (.ref b571), .val (.ref b594), .val (.int (p3 &&& (3 : Int32))), .val (.int (((p3.toUInt32 >>> ((2 : Int32) &&& 31).toUInt32).toInt32) &&& (3 : Int32))), .val (.int ff), .val (.int nn), .val (.ref b621), .val (.int (own_b (¬ (1 : Int32) = (3 : Int32)))), .val (.int s3), .val (.int e1), .unset, .unset] [])) := fun tq kq => G727 tq (by
          refine XS.ifYes X726.here hx rfl (pc0 := 256) (pc' := 262) rfl (hb hby at_256) rfl ((if0 _ _).trans (teq (own_b0 hc728)).1) (by decide) (by decide) ?_
          show Steps p.tables e below (T726.setTop (mkF m 262 #[.val (.int p0), .val (.int p1), .val (.int p2), .val (.int p3), .val (.ref b571), .val (.ref b594), .val (.int (p3 &&& (3 : Int32))), .val (.int (((p3.toUInt32 >>> ((2 : Int32) &&& 31).toUInt32).toInt32) &&& (3 : Int32))), .val (.int ff), .val (.int nn), .val (.ref b621), .val (.int (own_b (¬ (1 : Int32) = (3 : Int32)))), .val (.int s3), .val (.int e1), .unset, .unset] [])) _
          exact kq)
        exact ⟨T726, _, e1, X726, e726, N726, (by exact ⟨by simp only [own_b, own_en, hc719, hc728, not_true_eq_false, not_false_eq_true, if_true, if_false, or_true, true_or, or_false, false_or, and_true, true_and, and_false, false_and, and_self, or_self], ze1, le1⟩), G730⟩
    · have G731 : Go p e below A0 (T702.setTop (mkF m 262 #[.val (.int p0), .val (.int p1), .val (.int p2), .val (.int p3), .val (.ref b571), .val (.ref b594), .val (.int (p3 &&& (3 : Int32))), .val (.int (((p3.toUInt32 >>> ((2 : Int32) &&& 31).toUInt32).toInt32) &&& (3 : Int32))), .val (.int ff), .val (.int nn), .val (.ref b621), .val (.int (own_b (¬ (1 : Int32) = (3 : Int32)))), .val (.int s3), .val (.int e1), .unset, .unset] [])) := fun tq kq => G718 tq (by
        refine XS.icmpYes X702.here hx rfl (pc0 := 245) (pc' := 262) rfl (hb hby at_245) rfl (flt hc719).2.1 (by decide) (by decide) ?_
        show Steps p.tables e below (T702.setTop (mkF m 262 #[.val (.int p0), .val (.int p1), .val (.int p2), .val (.int p3), .val (.ref b571), .val (.ref b594), .val (.int (p3 &&& (3 : Int32))), .val (.int (((p3.toUInt32 >>> ((2 : Int32) &&& 31).toUInt32).toInt32) &&& (3 : Int32))), .val (.int ff), .val (.int nn), .val (.ref b621), .val (.int (own_b (¬ (1 : Int32) = (3 : Int32)))), .val (.int s3), .val (.int e1), .unset, .unset] [])) _
        exact kq)
      exact ⟨T702, _, e1, X702, e702, N702, (by exact ⟨by simp only [own_b, own_en, hc719, not_true_eq_false, not_false_eq_true, if_true, if_false, or_true, true_or, or_false, false_or, and_true, true_and, and_false, false_and, and_self, or_self], ze1, le1⟩), G731⟩
  obtain ⟨he2, ze2, le2⟩ := hG717
  obtain ⟨T732, Lc732, e3, X732, e732, N732, hG732, G732⟩ : ∃ (T732 : State) (Lc732 : List Loc) (e3 : Int32), Stand p l e room_1 s m #[(.int p0), (.int p1), (.int p2), (.int p3)] below meth c T732 Lc732 4 76 ∧ T732.heap = T648.heap ∧ Fr n0 Lc732 ∧ (e3 = own_en tt nn e2 ∧ ¬ e3 < 0 ∧ ¬ nn < e3) ∧ Go p e below A0 (T732.setTop (mkF m 283 #[.val (.int p0), .val (.int p1), .val (.int p2), .val (.int p3), .val (.ref b571), .val (.ref b594), .val (.int (p3 &&& (3 : Int32))), .val (.int (((p3.toUInt32 >>> ((2 : Int32) &&& 31).toUInt32).toInt32) &&& (3 : Int32))), .val (.int ff), .val (.int nn), .val (.ref b621), .val (.int (own_b (¬ (1 : Int32) = (3 : Int32)))), .val (.int s3), .val (.int e3), .unset, .unset] [])) := by
    have G733 : Go p e below A0 (T717.setTop (mkF m 266 #[.val (.int p0), .val (.int p1), .val (.int p2), .val (.int p3), .val (.ref b571), .val (.ref b594), .val (.int (p3 &&& (3 : Int32))), .val (.int (((p3.toUInt32 >>> ((2 : Int32) &&& 31).toUInt32).toInt32) &&& (3 : Int32))), .val (.int ff), .val (.int nn), .val (.ref b621), .val (.int (own_b (¬ (1 : Int32) = (3 : Int32)))), .val (.int s3), .val (.int e2), .unset, .unset] [(.int nn), (.int e2)])) := fun tq kq => G717 tq (by
      refine XS.iload X717.here hx rfl (hb hby at_262) rfl ?_
      show Steps p.tables e below (T717.setTop (mkF m 264 #[.val (.int p0), .val (.int p1), .val (.int p2), .val (.int p3), .val (.ref b571), .val (.ref b594), .val (.int (p3 &&& (3 : Int32))), .val (.int (((p3.toUInt32 >>> ((2 : Int32) &&& 31).toUInt32).toInt32) &&& (3 : Int32))), .val (.int ff), .val (.int nn), .val (.ref b621), .val (.int (own_b (¬ (1 : Int32) = (3 : Int32)))), .val (.int s3), .val (.int e2), .unset, .unset] [(.int e2)])) _
      refine XS.iload X717.here hx rfl (hb hby at_264) rfl ?_
      show Steps p.tables e below (T717.setTop (mkF m 266 #[.val (.int p0), .val (.int p1), .val (.int p2), .val (.int p3), .val (.ref b571), .val (.ref b594), .val (.int (p3 &&& (3 : Int32))), .val (.int (((p3.toUInt32 >>> ((2 : Int32) &&& 31).toUInt32).toInt32) &&& (3 : Int32))), .val (.int ff), .val (.int nn), .val (.ref b621), .val (.int (own_b (¬ (1 : Int32) = (3 : Int32)))), .val (.int s3), .val (.int e2), .unset, .unset] [(.int nn), (.int e2)])) _
      exact kq)
    by_cases hc734 : e2 < nn
    · have G735 : Go p e below A0 (T717.setTop (mkF m 273 #[.val (.int p0), .val (.int p1), .val (.int p2), .val (.int p3), .val (.ref b571), .val (.ref b594), .val (.int (p3 &&& (3 : Int32))), .val (.int (((p3.toUInt32 >>> ((2 : Int32) &&& 31).toUInt32).toInt32) &&& (3 : Int32))), .val (.int ff), .val (.int nn), .val (.ref b621), .val (.int (own_b (¬ (1 : Int32) = (3 : Int32)))), .val (.int s3), .val (.int e2), .unset, .unset] [(.int e2), (.ref b594)])) := fun tq kq => G733 tq (by
        refine XS.icmpNo X717.here hx rfl (hb hby at_266) rfl (tlt hc734).2.1 ?_
        show Steps p.tables e below (T717.setTop (mkF m 269 #[.val (.int p0), .val (.int p1), .val (.int p2), .val (.int p3), .val (.ref b571), .val (.ref b594), .val (.int (p3 &&& (3 : Int32))), .val (.int (((p3.toUInt32 >>> ((2 : Int32) &&& 31).toUInt32).toInt32) &&& (3 : Int32))), .val (.int ff), .val (.int nn), .val (.ref b621), .val (.int (own_b (¬ (1 : Int32) = (3 : Int32)))), .val (.int s3), .val (.int e2), .unset, .unset] [])) _
        refine XS.aload X717.here hx rfl (hb hby at_269) rfl rfl ?_
        show Steps p.tables e below (T717.setTop (mkF m 271 #[.val (.int p0), .val (.int p1), .val (.int p2), .val (.int p3), .val (.ref b571), .val (.ref b594), .val (.int (p3 &&& (3 : Int32))), .val (.int (((p3.toUInt32 >>> ((2 : Int32) &&& 31).toUInt32).toInt32) &&& (3 : Int32))), .val (.int ff), .val (.int nn), .val (.ref b621), .val (.int (own_b (¬ (1 : Int32) = (3 : Int32)))), .val (.int s3), .val (.int e2), .unset, .unset] [(.ref b594)])) _
        refine XS.iload X717.here hx rfl (hb hby at_271) rfl ?_
        show Steps p.tables e below (T717.setTop (mkF m 273 #[.val (.int p0), .val (.int p1), .val (.int p2), .val (.int p3), .val (.ref b571), .val (.ref b594), .val (.int (p3 &&& (3 : Int32))), .val (.int (((p3.toUInt32 >>> ((2 : Int32) &&& 31).toUInt32).toInt32) &&& (3 : Int32))), .val (.int ff), .val (.int nn), .val (.ref b621), .val (.int (own_b (¬ (1 : Int32) = (3 : Int32)))), .val (.int s3), .val (.int e2), .unset, .unset] [(.int e2), (.ref b594)])) _
        exact kq)
      have f736 := (((((Att.ext E621).keep K625 (ninS (Nat.ne_of_lt lt_b594_b621) nin0)).keep K630 (ninS (Nat.ne_of_lt lt_b594_b621) nin0)).keep K635 (ninS (Nat.ne_of_lt lt_b594_b621) (ninS (Nat.ne_of_lt lt_b594_wb) nin0))).keep K648 (ninS (Nat.ne_of_lt lt_b594_b621) nin0))
      obtain ⟨cl737, Ar737, q737, S737, M737, H737⟩ := id f736
      have i739 : ¬ e2 < 0 ∧ e2 < (3 : Int32) := ⟨ze2, own_ltt hc734 hn3⟩
      have ri739 := htt _ (own_natl i739.1 i739.2)
      have zi739 := own_pos ze2 hc734
      have li739 := own_nlt1 hc734
      have hi738 : ¬ (e2 < 0 ∨ cl737.slots.size ≤ (e2).toNatClampNeg) := (inb_of S737 i739)
      have G740 : Go p e below A0 (T717.setTop (mkF m 274 #[.val (.int p0), .val (.int p1), .val (.int p2), .val (.int p3), .val (.ref b571), .val (.ref b594), .val (.int (p3 &&& (3 : Int32))), .val (.int (((p3.toUInt32 >>> ((2 : Int32) &&& 31).toUInt32).toInt32) &&& (3 : Int32))), .val (.int ff), .val (.int nn), .val (.ref b621), .val (.int (own_b (¬ (1 : Int32) = (3 : Int32)))), .val (.int s3), .val (.int e2), .unset, .unset] [(.int (tt (e2).toNatClampNeg))])) := fun tq kq => G735 tq (by
        refine X717.caload hx (j := e2) (v := (.int (tt (e2).toNatClampNeg))) (by rw [e717]; exact Ar737.1) (State.isArrayOf_alike hZ.alike Ar737.2.1) Ar737.2.2 hi738 ((H737 _ (S737 ▸ Nat.lt_of_not_le fun y => hi738 (Or.inr y))).trans (congrArg some rfl)) (g := (mkF m 273 #[.val (.int p0), .val (.int p1), .val (.int p2), .val (.int p3), .val (.ref b571), .val (.ref b594), .val (.int (p3 &&& (3 : Int32))), .val (.int (((p3.toUInt32 >>> ((2 : Int32) &&& 31).toUInt32).toInt32) &&& (3 : Int32))), .val (.int ff), .val (.int nn), .val (.ref b621), .val (.int (own_b (¬ (1 : Int32) = (3 : Int32)))), .val (.int s3), .val (.int e2), .unset, .unset] [(.int e2), (.ref b594)])) rfl rfl (hb hby at_273) _ ?_
        show Steps p.tables e below (T717.setTop (mkF m 274 #[.val (.int p0), .val (.int p1), .val (.int p2), .val (.int p3), .val (.ref b571), .val (.ref b594), .val (.int (p3 &&& (3 : Int32))), .val (.int (((p3.toUInt32 >>> ((2 : Int32) &&& 31).toUInt32).toInt32) &&& (3 : Int32))), .val (.int ff), .val (.int nn), .val (.ref b621), .val (.int (own_b (¬ (1 : Int32) = (3 : Int32)))), .val (.int s3), .val (.int e2), .unset, .unset] [(.int (tt (e2).toNatClampNeg))])) _
        exact kq)
      obtain ⟨_, _, ⟨T741, L741, k741, n741⟩, -, X741, ⟨Lc741, hQ741, l741, y741, z741⟩, st741⟩ := Jvm.LawKit.callS X717 hx (y := (⟨"com/example/subtree/subtree/index/PlainWordsResetPinLaw", "isWord", "(C)Z"⟩ : MethodName)) hown (mvT hZ (hw _ (List.mem_of_getElem? (i := 45) rfl))) (mvT hZ (hw _ (List.mem_of_getElem? (i := 46) rfl))) (mvT hZ (hw _ (List.mem_of_getElem? (i := 47) rfl))) (mvT hZ (hw _ (List.mem_of_getElem? (i := 48) rfl))) (by decide) (backOf (W := 0) (rmIW l Z a0 hw [] (tt (e2).toNatClampNeg) T648.heap n0 f652) hZ (hw _ (List.mem_of_getElem? (i := 48) rfl)) (hw _ (List.mem_of_getElem? (i := 47) rfl)) (by decide) (by decide)) (g := (mkF m 274 #[.val (.int p0), .val (.int p1), .val (.int p2), .val (.int p3), .val (.ref b571), .val (.ref b594), .val (.int (p3 &&& (3 : Int32))), .val (.int (((p3.toUInt32 >>> ((2 : Int32) &&& 31).toUInt32).toInt32) &&& (3 : Int32))), .val (.int ff), .val (.int nn), .val (.ref b621), .val (.int (own_b (¬ (1 : Int32) = (3 : Int32)))), .val (.int s3), .val (.int e2), .unset, .unset] [(.int (tt (e2).toNatClampNeg))])) rfl (by rw [hml]; rfl) (argsL := [(.int (tt (e2).toNatClampNeg))]) (rest := []) (lenOf pd_6 rfl) rfl (by show 2 * 0 + _ ≤ _; exact Nat.le_of_eq rfl) (hb hby at_274) (fun _ _ => ⟨rfl, e717, (by decide : 4 + 0 ≤ _), (by decide : 76 + 0 ≤ _)⟩)
      dsimp only [Pt.U, Pt.locs, Pt.cells, Pt.slots] at X741 l741 y741 z741 st741 hQ741
      obtain rfl : k741 = 4 := y741
      obtain rfl : n741 = 76 := z741
      obtain ⟨rfl, N741q, e741⟩ := hQ741
      have N741 : Fr n0 L741 := by rw [l741]; exact Fr.app N717 N741q
      have G742 : Go p e below A0 (T741.setTop (mkF m 277 #[.val (.int p0), .val (.int p1), .val (.int p2), .val (.int p3), .val (.ref b571), .val (.ref b594), .val (.int (p3 &&& (3 : Int32))), .val (.int (((p3.toUInt32 >>> ((2 : Int32) &&& 31).toUInt32).toInt32) &&& (3 : Int32))), .val (.int ff), .val (.int nn), .val (.ref b621), .val (.int (own_b (¬ (1 : Int32) = (3 : Int32)))), .val (.int s3), .val (.int e2), .unset, .unset] [(.int (own_b (own_W (tt (e2).toNatClampNeg))))])) := fun tq kq => G740 tq (st741 _ kq)
      by_cases hc743 : (own_W (tt (e2).toNatClampNeg))
      · have G744 : Go p e below A0 (T741.setTop (mkF m 283 #[.val (.int p0), .val (.int p1), .val (.int p2), .val (.int p3), .val (.ref b571), .val (.ref b594), .val (.int (p3 &&& (3 : Int32))), .val (.int (((p3.toUInt32 >>> ((2 : Int32) &&& 31).toUInt32).toInt32) &&& (3 : Int32))), .val (.int ff), .val (.int nn), .val (.ref b621), .val (.int (own_b (¬ (1 : Int32) = (3 : Int32)))), .val (.int s3), .val (.int (e2 + (1 : Int32))), .unset, .unset] [])) := fun tq kq => G742 tq (by
          refine XS.ifNo X741.here hx rfl (hb hby at_277) rfl ((if0 _ _).trans (feq (own_b1 hc743)).1) ?_
          show Steps p.tables e below (T741.setTop (mkF m 280 #[.val (.int p0), .val (.int p1), .val (.int p2), .val (.int p3), .val (.ref b571), .val (.ref b594), .val (.int (p3 &&& (3 : Int32))), .val (.int (((p3.toUInt32 >>> ((2 : Int32) &&& 31).toUInt32).toInt32) &&& (3 : Int32))), .val (.int ff), .val (.int nn), .val (.ref b621), .val (.int (own_b (¬ (1 : Int32) = (3 : Int32)))), .val (.int s3), .val (.int e2), .unset, .unset] [])) _
          refine XS.iinc X741.here hx rfl (hb hby at_280) rfl (l' := #[.val (.int p0), .val (.int p1), .val (.int p2), .val (.int p3), .val (.ref b571), .val (.ref b594), .val (.int (p3 &&& (3 : Int32))), .val (.int (((p3.toUInt32 >>> ((2 : Int32) &&& 31).toUInt32).toInt32) &&& (3 : Int32))), .val (.int ff), .val (.int nn), .val (.ref b621), .val (.int (own_b (¬ (1 : Int32) = (3 : Int32)))), .val (.int s3), .val (.int (e2 + (1 : Int32))), .unset, .unset]) rfl ?_
          show Steps p.tables e below (T741.setTop (mkF m 283 #[.val (.int p0), .val (.int p1), .val (.int p2), .val (.int p3), .val (.ref b571), .val (.ref b594), .val (.int (p3 &&& (3 : Int32))), .val (.int (((p3.toUInt32 >>> ((2 : Int32) &&& 31).toUInt32).toInt32) &&& (3 : Int32))), .val (.int ff), .val (.int nn), .val (.ref b621), .val (.int (own_b (¬ (1 : Int32) = (3 : Int32)))), .val (.int s3), .val (.int (e2 + (1 : Int32))), .unset, .unset] [])) _
          exact kq)
        exact ⟨T741, _, (e2 + (1 : Int32)), X741, e741, N741, (by exact ⟨by simp only [own_b, own_en, hc734, hc743, not_true_eq_false, not_false_eq_true, if_true, if_false, or_true, true_or, or_false, false_or, and_true, true_and, and_false, false_and, and_self, or_self], zi739, li739⟩), G744⟩
      · have G745 : Go p e below A0 (T741.setTop (mkF m 283 #[.val (.int p0), .val (.int p1), .val (.int p2), .val (.int p3), .val (.ref b571), .val (.ref b594), .val (.int (p3 &&& (3 : Int32))), .val (.int (((p3.toUInt32 >>> ((2 : Int32) &&& 31).toUInt32).toInt32) &&& (3 : Int32))), .val (.int ff), .val (.int nn), .val (.ref b621), .val (.int (own_b (¬ (1 : Int32) = (3 : Int32)))), .val (.int s3), .val (.int e2), .unset, .unset] [])) := fun tq kq => G742 tq (by
          refine XS.ifYes X741.here hx rfl (pc0 := 277) (pc' := 283) rfl (hb hby at_277) rfl ((if0 _ _).trans (teq (own_b0 hc743)).1) (by decide) (by decide) ?_
          show Steps p.tables e below (T741.setTop (mkF m 283 #[.val (.int p0), .val (.int p1), .val (.int p2), .val (.int p3), .val (.ref b571), .val (.ref b594), .val (.int (p3 &&& (3 : Int32))), .val (.int (((p3.toUInt32 >>> ((2 : Int32) &&& 31).toUInt32).toInt32) &&& (3 : Int32))), .val (.int ff), .val (.int nn), .val (.ref b621), .val (.int (own_b (¬ (1 : Int32) = (3 : Int32)))), .val (.int s3), .val (.int e2), .unset, .unset] [])) _
          exact kq)
        exact ⟨T741, _, e2, X741, e741, N741, (by exact ⟨by simp only [own_b, own_en, hc734, hc743, not_true_eq_false, not_false_eq_true, if_true, if_false, or_true, true_or, or_false, false_or, and_true, true_and, and_false, false_and, and_self, or_self], ze2, le2⟩), G745⟩
    · have G746 : Go p e below A0 (T717.setTop (mkF m 283 #[.val (.int p0), .val (.int p1), .val (.int p2), .val (.int p3), .val (.ref b571), .val (.ref b594), .val (.int (p3 &&& (3 : Int32))), .val (.int (((p3.toUInt32 >>> ((2 : Int32) &&& 31).toUInt32).toInt32) &&& (3 : Int32))), .val (.int ff), .val (.int nn), .val (.ref b621), .val (.int (own_b (¬ (1 : Int32) = (3 : Int32)))), .val (.int s3), .val (.int e2), .unset, .unset] [])) := fun tq kq => G733 tq (by
        refine XS.icmpYes X717.here hx rfl (pc0 := 266) (pc' := 283) rfl (hb hby at_266) rfl (flt hc734).2.1 (by decide) (by decide) ?_
        show Steps p.tables e below (T717.setTop (mkF m 283 #[.val (.int p0), .val (.int p1), .val (.int p2), .val (.int p3), .val (.ref b571), .val (.ref b594), .val (.int (p3 &&& (3 : Int32))), .val (.int (((p3.toUInt32 >>> ((2 : Int32) &&& 31).toUInt32).toInt32) &&& (3 : Int32))), .val (.int ff), .val (.int nn), .val (.ref b621), .val (.int (own_b (¬ (1 : Int32) = (3 : Int32)))), .val (.int s3), .val (.int e2), .unset, .unset] [])) _
        exact kq)
      exact ⟨T717, _, e2, X717, e717, N717, (by exact ⟨by simp only [own_b, own_en, hc734, not_true_eq_false, not_false_eq_true, if_true, if_false, or_true, true_or, or_false, false_or, and_true, true_and, and_false, false_and, and_self, or_self], ze2, le2⟩), G746⟩
  obtain ⟨he3, ze3, le3⟩ := hG732
  have G747 : Go p e below A0 (T732.setTop (mkF m 285 #[.val (.int p0), .val (.int p1), .val (.int p2), .val (.int p3), .val (.ref b571), .val (.ref b594), .val (.int (p3 &&& (3 : Int32))), .val (.int (((p3.toUInt32 >>> ((2 : Int32) &&& 31).toUInt32).toInt32) &&& (3 : Int32))), .val (.int ff), .val (.int nn), .val (.ref b621), .val (.int (own_b (¬ (1 : Int32) = (3 : Int32)))), .val (.int s3), .val (.int e3), .unset, .unset] [(.ref b621)])) := fun tq kq => G732 tq (by
    refine XS.aload X732.here hx rfl (hb hby at_283) rfl rfl ?_
    show Steps p.tables e below (T732.setTop (mkF m 285 #[.val (.int p0), .val (.int p1), .val (.int p2), .val (.int p3), .val (.ref b571), .val (.ref b594), .val (.int (p3 &&& (3 : Int32))), .val (.int (((p3.toUInt32 >>> ((2 : Int32) &&& 31).toUInt32).toInt32) &&& (3 : Int32))), .val (.int ff), .val (.int nn), .val (.ref b621), .val (.int (own_b (¬ (1 : Int32) = (3 : Int32)))), .val (.int s3), .val (.int e3), .unset, .unset] [(.ref b621)])) _
    exact kq)
  have f749 := (((((Att.ext E621).keep K625 (ninS (Nat.ne_of_lt lt_b594_b621) nin0)).keep K630 (ninS (Nat.ne_of_lt lt_b594_b621) nin0)).keep K635 (ninS (Nat.ne_of_lt lt_b594_b621) (ninS (Nat.ne_of_lt lt_b594_wb) nin0))).keep K648 (ninS (Nat.ne_of_lt lt_b594_b621) nin0))
  have f750 := (Aw635.keep K648 (ninS (Ne.symm (Nat.ne_of_lt lt_b621_wb)) nin0))
  have f751 := ((f640.keep K635 (allS g_b621 (allS hg625 all0))).keep K648 (allS g_b621 all0))
  obtain ⟨cq748, kq748, q748a, q748b, q748c⟩ := isOf hZ e732 f653
  obtain ⟨_, _, ⟨T748, L748, k748, n748⟩, -, X748, ⟨Lc748, hQ748, l748, y748, z748⟩, st748⟩ := X732.virtualBack hx (y := (⟨"com/example/subtree/subtree/index/PlainWords", "next", "()Z"⟩ : MethodName)) (z := (⟨"com/example/subtree/subtree/index/PlainWords", "next", "()Z"⟩ : MethodName)) hown (mvT hZ (hw _ (List.mem_of_getElem? (i := 33) rfl))) (mvT hZ (hw _ (List.mem_of_getElem? (i := 34) rfl))) (notFace_of_selects (args := #[]) (mvT hZ (hw _ (List.mem_of_getElem? (i := 36) rfl)))) (mvT hZ (hw _ (List.mem_of_getElem? (i := 36) rfl))) (mvT hZ (hw _ (List.mem_of_getElem? (i := 35) rfl))) (by decide) (backOf (W := 0) (rmX l Z a0 hw [] b621 b594 wb tb tt gp635 ff nn (3 : Int32) s3 e3 k594 kw kb T648.heap n0 f652 f653 g_b621 hg625 (Nat.ne_of_lt lt_b621_wb) (Nat.ne_of_lt lt_b594_b621) (Nat.ne_of_lt lt_b594_wb) Fx648_0 Fx648_1 Fx648_2 Fx648_3 Fx648_4 f749 f750 f751 hSd hAd hz0 hfn0 hn3 hn3 htt (by rw [hs3, hs2, hs1]) (by rw [he3, he2, he1])) hZ (hw _ (List.mem_of_getElem? (i := 37) rfl)) (hw _ (List.mem_of_getElem? (i := 10) rfl)) (by decide) (by decide)) q748a q748c (g := (mkF m 285 #[.val (.int p0), .val (.int p1), .val (.int p2), .val (.int p3), .val (.ref b571), .val (.ref b594), .val (.int (p3 &&& (3 : Int32))), .val (.int (((p3.toUInt32 >>> ((2 : Int32) &&& 31).toUInt32).toInt32) &&& (3 : Int32))), .val (.int ff), .val (.int nn), .val (.ref b621), .val (.int (own_b (¬ (1 : Int32) = (3 : Int32)))), .val (.int s3), .val (.int e3), .unset, .unset] [(.ref b621)])) rfl (by rw [hml]; rfl) (Steps.refl _) (argsL := []) (rest := []) (lenOf pd_4 rfl) rfl (by show 2 * 0 + _ ≤ _; exact Nat.le_of_eq rfl) (hb hby at_285) (fun _ _ => ⟨rfl, e732, (by decide : 4 + 0 ≤ _), (by decide : 76 + 0 ≤ _)⟩)
  dsimp only [Pt.U, Pt.locs, Pt.cells, Pt.slots] at X748 l748 y748 z748 st748 hQ748
  obtain rfl : k748 = 4 := y748
  obtain rfl : n748 = 76 := z748
  obtain ⟨gp748, rfl, N748q, K748, Fx748_0, Fx748_1, Fx748_2, Fx748_3, Fx748_4, Aw748, ct748⟩ := hQ748
  have N748 : Fr n0 L748 := by rw [l748]; exact Fr.app N732 N748q
  have G752 : Go p e below A0 (T748.setTop (mkF m 288 #[.val (.int p0), .val (.int p1), .val (.int p2), .val (.int p3), .val (.ref b571), .val (.ref b594), .val (.int (p3 &&& (3 : Int32))), .val (.int (((p3.toUInt32 >>> ((2 : Int32) &&& 31).toUInt32).toInt32) &&& (3 : Int32))), .val (.int ff), .val (.int nn), .val (.ref b621), .val (.int (own_b (¬ (1 : Int32) = (3 : Int32)))), .val (.int s3), .val (.int e3), .unset, .unset] [(.int (own_b (¬ s3 = nn)))])) := fun tq kq => G747 tq (st748.trans kq)
  have G753 : Go p e below A0 (T748.setTop (mkF m 294 #[.val (.int p0), .val (.int p1), .val (.int p2), .val (.int p3), .val (.ref b571), .val (.ref b594), .val (.int (p3 &&& (3 : Int32))), .val (.int (((p3.toUInt32 >>> ((2 : Int32) &&& 31).toUInt32).toInt32) &&& (3 : Int32))), .val (.int ff), .val (.int nn), .val (.ref b621), .val (.int (own_b (¬ (1 : Int32) = (3 : Int32)))), .val (.int s3), .val (.int e3), .val (.int (own_b (¬ s3 = nn))), .unset] [(.int nn), (.int s3)])) := fun tq kq => G752 tq (by
    refine XS.istore X748.here hx rfl (hb hby at_288) rfl (l' := #[.val (.int p0), .val (.int p1), .val (.int p2), .val (.int p3), .val (.ref b571), .val (.ref b594), .val (.int (p3 &&& (3 : Int32))), .val (.int (((p3.toUInt32 >>> ((2 : Int32) &&& 31).toUInt32).toInt32) &&& (3 : Int32))), .val (.int ff), .val (.int nn), .val (.ref b621), .val (.int (own_b (¬ (1 : Int32) = (3 : Int32)))), .val (.int s3), .val (.int e3), .val (.int (own_b (¬ s3 = nn))), .unset]) rfl ?_
    show Steps p.tables e below (T748.setTop (mkF m 290 #[.val (.int p0), .val (.int p1), .val (.int p2), .val (.int p3), .val (.ref b571), .val (.ref b594), .val (.int (p3 &&& (3 : Int32))), .val (.int (((p3.toUInt32 >>> ((2 : Int32) &&& 31).toUInt32).toInt32) &&& (3 : Int32))), .val (.int ff), .val (.int nn), .val (.ref b621), .val (.int (own_b (¬ (1 : Int32) = (3 : Int32)))), .val (.int s3), .val (.int e3), .val (.int (own_b (¬ s3 = nn))), .unset] [])) _
    refine XS.iload X748.here hx rfl (hb hby at_290) rfl ?_
    show Steps p.tables e below (T748.setTop (mkF m 292 #[.val (.int p0), .val (.int p1), .val (.int p2), .val (.int p3), .val (.ref b571), .val (.ref b594), .val (.int (p3 &&& (3 : Int32))), .val (.int (((p3.toUInt32 >>> ((2 : Int32) &&& 31).toUInt32).toInt32) &&& (3 : Int32))), .val (.int ff), .val (.int nn), .val (.ref b621), .val (.int (own_b (¬ (1 : Int32) = (3 : Int32)))), .val (.int s3), .val (.int e3), .val (.int (own_b (¬ s3 = nn))), .unset] [(.int s3)])) _
    refine XS.iload X748.here hx rfl (hb hby at_292) rfl ?_
    show Steps p.tables e below (T748.setTop (mkF m 294 #[.val (.int p0), .val (.int p1), .val (.int p2), .val (.int p3), .val (.ref b571), .val (.ref b594), .val (.int (p3 &&& (3 : Int32))), .val (.int (((p3.toUInt32 >>> ((2 : Int32) &&& 31).toUInt32).toInt32) &&& (3 : Int32))), .val (.int ff), .val (.int nn), .val (.ref b621), .val (.int (own_b (¬ (1 : Int32) = (3 : Int32)))), .val (.int s3), .val (.int e3), .val (.int (own_b (¬ s3 = nn))), .unset] [(.int nn), (.int s3)])) _
    exact kq)
  by_cases hc754 : s3 = nn
  · have G755 : Go p e below A0 (T748.setTop (mkF m 297 #[.val (.int p0), .val (.int p1), .val (.int p2), .val (.int p3), .val (.ref b571), .val (.ref b594), .val (.int (p3 &&& (3 : Int32))), .val (.int (((p3.toUInt32 >>> ((2 : Int32) &&& 31).toUInt32).toInt32) &&& (3 : Int32))), .val (.int ff), .val (.int nn), .val (.ref b621), .val (.int (own_b (¬ (1 : Int32) = (3 : Int32)))), .val (.int s3), .val (.int e3), .val (.int (own_b (¬ s3 = nn))), .unset] [])) := fun tq kq => G753 tq (by
      refine XS.icmpNo X748.here hx rfl (hb hby at_294) rfl (teq hc754).2 ?_
      show Steps p.tables e below (T748.setTop (mkF m 297 #[.val (.int p0), .val (.int p1), .val (.int p2), .val (.int p3), .val (.ref b571), .val (.ref b594), .val (.int (p3 &&& (3 : Int32))), .val (.int (((p3.toUInt32 >>> ((2 : Int32) &&& 31).toUInt32).toInt32) &&& (3 : Int32))), .val (.int ff), .val (.int nn), .val (.ref b621), .val (.int (own_b (¬ (1 : Int32) = (3 : Int32)))), .val (.int s3), .val (.int e3), .val (.int (own_b (¬ s3 = nn))), .unset] [])) _
      exact kq)
    have hl0 := own_len0 (tt := tt) hc754 (show e3 = _ by rw [he3, he2, he1])
    have G756 : Go p e below A0 (T748.setTop (mkF m 304 #[.val (.int p0), .val (.int p1), .val (.int p2), .val (.int p3), .val (.ref b571), .val (.ref b594), .val (.int (p3 &&& (3 : Int32))), .val (.int (((p3.toUInt32 >>> ((2 : Int32) &&& 31).toUInt32).toInt32) &&& (3 : Int32))), .val (.int ff), .val (.int nn), .val (.ref b621), .val (.int (own_b (¬ (1 : Int32) = (3 : Int32)))), .val (.int s3), .val (.int e3), .val (.int (own_b (¬ s3 = nn))), .unset] [(.ref b621)])) := fun tq kq => G755 tq (by
      refine XS.iload X748.here hx rfl (hb hby at_297) rfl ?_
      show Steps p.tables e below (T748.setTop (mkF m 299 #[.val (.int p0), .val (.int p1), .val (.int p2), .val (.int p3), .val (.ref b571), .val (.ref b594), .val (.int (p3 &&& (3 : Int32))), .val (.int (((p3.toUInt32 >>> ((2 : Int32) &&& 31).toUInt32).toInt32) &&& (3 : Int32))), .val (.int ff), .val (.int nn), .val (.ref b621), .val (.int (own_b (¬ (1 : Int32) = (3 : Int32)))), .val (.int s3), .val (.int e3), .val (.int (own_b (¬ s3 = nn))), .unset] [(.int (own_b (¬ s3 = nn)))])) _
      refine XS.ifNo X748.here hx rfl (hb hby at_299) rfl ((if0 _ _).trans (teq (own_b0 (fun q => q hc754))).2) ?_
      show Steps p.tables e below (T748.setTop (mkF m 302 #[.val (.int p0), .val (.int p1), .val (.int p2), .val (.int p3), .val (.ref b571), .val (.ref b594), .val (.int (p3 &&& (3 : Int32))), .val (.int (((p3.toUInt32 >>> ((2 : Int32) &&& 31).toUInt32).toInt32) &&& (3 : Int32))), .val (.int ff), .val (.int nn), .val (.ref b621), .val (.int (own_b (¬ (1 : Int32) = (3 : Int32)))), .val (.int s3), .val (.int e3), .val (.int (own_b (¬ s3 = nn))), .unset] [])) _
      refine XS.aload X748.here hx rfl (hb hby at_302) rfl rfl ?_
      show Steps p.tables e below (T748.setTop (mkF m 304 #[.val (.int p0), .val (.int p1), .val (.int p2), .val (.int p3), .val (.ref b571), .val (.ref b594), .val (.int (p3 &&& (3 : Int32))), .val (.int (((p3.toUInt32 >>> ((2 : Int32) &&& 31).toUInt32).toInt32) &&& (3 : Int32))), .val (.int ff), .val (.int nn), .val (.ref b621), .val (.int (own_b (¬ (1 : Int32) = (3 : Int32)))), .val (.int s3), .val (.int e3), .val (.int (own_b (¬ s3 = nn))), .unset] [(.ref b621)])) _
      exact kq)
    have f758 := (Nat.le_trans f652 K748.1)
    have f759 := (f653.keep K748)
    obtain ⟨cq757, kq757, q757a, q757b, q757c⟩ := isOf hZ rfl f759
    obtain ⟨_, _, ⟨T757, L757, k757, n757⟩, -, X757, ⟨Lc757, hQ757, l757, y757, z757⟩, st757⟩ := X748.virtualBack hx (y := (⟨"com/example/subtree/subtree/index/PlainWords", "length", "()I"⟩ : MethodName)) (z := (⟨"com/example/subtree/subtree/index/PlainWords", "length", "()I"⟩ : MethodName)) hown (mvT hZ (hw _ (List.mem_of_getElem? (i := 40) rfl))) (mvT hZ (hw _ (List.mem_of_getElem? (i := 41) rfl))) (notFace_of_selects (args := #[]) (mvT hZ (hw _ (List.mem_of_getElem? (i := 43) rfl)))) (mvT hZ (hw _ (List.mem_of_getElem? (i := 43) rfl))) (mvT hZ (hw _ (List.mem_of_getElem? (i := 42) rfl))) (by decide) (backOf (W := 0) (rmL l Z a0 hw [] b621 (e3 - s3) T748.heap n0 f758 Fx748_3) hZ (hw _ (List.mem_of_getElem? (i := 44) rfl)) (hw _ (List.mem_of_getElem? (i := 10) rfl)) (by decide) (by decide)) q757a q757c (g := (mkF m 304 #[.val (.int p0), .val (.int p1), .val (.int p2), .val (.int p3), .val (.ref b571), .val (.ref b594), .val (.int (p3 &&& (3 : Int32))), .val (.int (((p3.toUInt32 >>> ((2 : Int32) &&& 31).toUInt32).toInt32) &&& (3 : Int32))), .val (.int ff), .val (.int nn), .val (.ref b621), .val (.int (own_b (¬ (1 : Int32) = (3 : Int32)))), .val (.int s3), .val (.int e3), .val (.int (own_b (¬ s3 = nn))), .unset] [(.ref b621)])) rfl (by rw [hml]; rfl) (Steps.refl _) (argsL := []) (rest := []) (lenOf pd_5 rfl) rfl (by show 2 * 0 + _ ≤ _; exact Nat.le_of_eq rfl) (hb hby at_304) (fun _ _ => ⟨rfl, rfl, (by decide : 4 + 0 ≤ _), (by decide : 76 + 0 ≤ _)⟩)
    dsimp only [Pt.U, Pt.locs, Pt.cells, Pt.slots] at X757 l757 y757 z757 st757 hQ757
    obtain rfl : k757 = 4 := y757
    obtain rfl : n757 = 76 := z757
    obtain ⟨rfl, N757q, e757⟩ := hQ757
    have N757 : Fr n0 L757 := by rw [l757]; exact Fr.app N748 N757q
    have G760 : Go p e below A0 (T757.setTop (mkF m 307 #[.val (.int p0), .val (.int p1), .val (.int p2), .val (.int p3), .val (.ref b571), .val (.ref b594), .val (.int (p3 &&& (3 : Int32))), .val (.int (((p3.toUInt32 >>> ((2 : Int32) &&& 31).toUInt32).toInt32) &&& (3 : Int32))), .val (.int ff), .val (.int nn), .val (.ref b621), .val (.int (own_b (¬ (1 : Int32) = (3 : Int32)))), .val (.int s3), .val (.int e3), .val (.int (own_b (¬ s3 = nn))), .unset] [(.int (e3 - s3))])) := fun tq kq => G756 tq (st757.trans kq)
    have G761 : Go p e below A0 (T757.setTop (mkF m 315 #[.val (.int p0), .val (.int p1), .val (.int p2), .val (.int p3), .val (.ref b571), .val (.ref b594), .val (.int (p3 &&& (3 : Int32))), .val (.int (((p3.toUInt32 >>> ((2 : Int32) &&& 31).toUInt32).toInt32) &&& (3 : Int32))), .val (.int ff), .val (.int nn), .val (.ref b621), .val (.int (own_b (¬ (1 : Int32) = (3 : Int32)))), .val (.int s3), .val (.int e3), .val (.int (own_b (¬ s3 = nn))), .unset] [(.int (1 : Int32))])) := fun tq kq => G760 tq (by
      refine XS.ifNo X757.here hx rfl (hb hby at_307) rfl ((if0 _ _).trans (teq hl0).2) ?_
      show Steps p.tables e below (T757.setTop (mkF m 310 #[.val (.int p0), .val (.int p1), .val (.int p2), .val (.int p3), .val (.ref b571), .val (.ref b594), .val (.int (p3 &&& (3 : Int32))), .val (.int (((p3.toUInt32 >>> ((2 : Int32) &&& 31).toUInt32).toInt32) &&& (3 : Int32))), .val (.int ff), .val (.int nn), .val (.ref b621), .val (.int (own_b (¬ (1 : Int32) = (3 : Int32)))), .val (.int s3), .val (.int e3), .val (.int (own_b (¬ s3 = nn))), .unset] [])) _
      refine XS.iconst X757.here hx rfl (hb hby at_310) ?_
      show Steps p.tables e below (T757.setTop (mkF m 311 #[.val (.int p0), .val (.int p1), .val (.int p2), .val (.int p3), .val (.ref b571), .val (.ref b594), .val (.int (p3 &&& (3 : Int32))), .val (.int (((p3.toUInt32 >>> ((2 : Int32) &&& 31).toUInt32).toInt32) &&& (3 : Int32))), .val (.int ff), .val (.int nn), .val (.ref b621), .val (.int (own_b (¬ (1 : Int32) = (3 : Int32)))), .val (.int s3), .val (.int e3), .val (.int (own_b (¬ s3 = nn))), .unset] [(.int (1 : Int32))])) _
      refine XS.goto X757.here hx rfl (pc0 := 311) (pc' := 315) rfl (hb hby at_311) (by decide) (by decide) ?_
      show Steps p.tables e below (T757.setTop (mkF m 315 #[.val (.int p0), .val (.int p1), .val (.int p2), .val (.int p3), .val (.ref b571), .val (.ref b594), .val (.int (p3 &&& (3 : Int32))), .val (.int (((p3.toUInt32 >>> ((2 : Int32) &&& 31).toUInt32).toInt32) &&& (3 : Int32))), .val (.int ff), .val (.int nn), .val (.ref b621), .val (.int (own_b (¬ (1 : Int32) = (3 : Int32)))), .val (.int s3), .val (.int e3), .val (.int (own_b (¬ s3 = nn))), .unset] [(.int (1 : Int32))])) _
      exact kq)
    obtain ⟨fs, hr, hrun, hended, hW, hsame⟩ := X757.leave (v := some (.int (nar .boolean (1 : Int32)))) (fun h => by rw [Bd.returns] at h; cases h)
    refine ⟨_, _, (by rw [← hA0]; exact G761 _ (retN X757 hx (t := .boolean) Bd.returns (by simp) (hb hby at_315) hr)), hrun, hended, _, _, rfl, ?_, ⟨_, rfl⟩, hW, hsame.mono (by decide) (by decide)⟩
    exact ⟨rfl, N757⟩
  · have G762 : Go p e below A0 (T748.setTop (mkF m 323 #[.val (.int p0), .val (.int p1), .val (.int p2), .val (.int p3), .val (.ref b571), .val (.ref b594), .val (.int (p3 &&& (3 : Int32))), .val (.int (((p3.toUInt32 >>> ((2 : Int32) &&& 31).toUInt32).toInt32) &&& (3 : Int32))), .val (.int ff), .val (.int nn), .val (.ref b621), .val (.int (own_b (¬ (1 : Int32) = (3 : Int32)))), .val (.int s3), .val (.int e3), .val (.int (own_b (¬ s3 = nn))), .unset] [(.ref b621)])) := fun tq kq => G753 tq (by
      refine XS.icmpYes X748.here hx rfl (pc0 := 294) (pc' := 316) rfl (hb hby at_294) rfl (feq hc754).2 (by decide) (by decide) ?_
      show Steps p.tables e below (T748.setTop (mkF m 316 #[.val (.int p0), .val (.int p1), .val (.int p2), .val (.int p3), .val (.ref b571), .val (.ref b594), .val (.int (p3 &&& (3 : Int32))), .val (.int (((p3.toUInt32 >>> ((2 : Int32) &&& 31).toUInt32).toInt32) &&& (3 : Int32))), .val (.int ff), .val (.int nn), .val (.ref b621), .val (.int (own_b (¬ (1 : Int32) = (3 : Int32)))), .val (.int s3), .val (.int e3), .val (.int (own_b (¬ s3 = nn))), .unset] [])) _
      refine XS.iload X748.here hx rfl (hb hby at_316) rfl ?_
      show Steps p.tables e below (T748.setTop (mkF m 318 #[.val (.int p0), .val (.int p1), .val (.int p2), .val (.int p3), .val (.ref b571), .val (.ref b594), .val (.int (p3 &&& (3 : Int32))), .val (.int (((p3.toUInt32 >>> ((2 : Int32) &&& 31).toUInt32).toInt32) &&& (3 : Int32))), .val (.int ff), .val (.int nn), .val (.ref b621), .val (.int (own_b (¬ (1 : Int32) = (3 : Int32)))), .val (.int s3), .val (.int e3), .val (.int (own_b (¬ s3 = nn))), .unset] [(.int (own_b (¬ s3 = nn)))])) _
      refine XS.ifNo X748.here hx rfl (hb hby at_318) rfl ((if0 _ _).trans (feq (own_b1 hc754)).1) ?_
      show Steps p.tables e below (T748.setTop (mkF m 321 #[.val (.int p0), .val (.int p1), .val (.int p2), .val (.int p3), .val (.ref b571), .val (.ref b594), .val (.int (p3 &&& (3 : Int32))), .val (.int (((p3.toUInt32 >>> ((2 : Int32) &&& 31).toUInt32).toInt32) &&& (3 : Int32))), .val (.int ff), .val (.int nn), .val (.ref b621), .val (.int (own_b (¬ (1 : Int32) = (3 : Int32)))), .val (.int s3), .val (.int e3), .val (.int (own_b (¬ s3 = nn))), .unset] [])) _
      refine XS.aload X748.here hx rfl (hb hby at_321) rfl rfl ?_
      show Steps p.tables e below (T748.setTop (mkF m 323 #[.val (.int p0), .val (.int p1), .val (.int p2), .val (.int p3), .val (.ref b571), .val (.ref b594), .val (.int (p3 &&& (3 : Int32))), .val (.int (((p3.toUInt32 >>> ((2 : Int32) &&& 31).toUInt32).toInt32) &&& (3 : Int32))), .val (.int ff), .val (.int nn), .val (.ref b621), .val (.int (own_b (¬ (1 : Int32) = (3 : Int32)))), .val (.int s3), .val (.int e3), .val (.int (own_b (¬ s3 = nn))), .unset] [(.ref b621)])) _
      exact kq)
    have f764 := (Nat.le_trans f652 K748.1)
    have f765 := (f653.keep K748)
    obtain ⟨cq763, kq763, q763a, q763b, q763c⟩ := isOf hZ rfl f765
    obtain ⟨_, _, ⟨T763, L763, k763, n763⟩, -, X763, ⟨Lc763, hQ763, l763, y763, z763⟩, st763⟩ := X748.virtualBack hx (y := (⟨"com/example/subtree/subtree/index/PlainWords", "length", "()I"⟩ : MethodName)) (z := (⟨"com/example/subtree/subtree/index/PlainWords", "length", "()I"⟩ : MethodName)) hown (mvT hZ (hw _ (List.mem_of_getElem? (i := 40) rfl))) (mvT hZ (hw _ (List.mem_of_getElem? (i := 41) rfl))) (notFace_of_selects (args := #[]) (mvT hZ (hw _ (List.mem_of_getElem? (i := 43) rfl)))) (mvT hZ (hw _ (List.mem_of_getElem? (i := 43) rfl))) (mvT hZ (hw _ (List.mem_of_getElem? (i := 42) rfl))) (by decide) (backOf (W := 0) (rmL l Z a0 hw [] b621 (e3 - s3) T748.heap n0 f764 Fx748_3) hZ (hw _ (List.mem_of_getElem? (i := 44) rfl)) (hw _ (List.mem_of_getElem? (i := 10) rfl)) (by decide) (by decide)) q763a q763c (g := (mkF m 323 #[.val (.int p0), .val (.int p1), .val (.int p2), .val (.int p3), .val (.ref b571), .val (.ref b594), .val (.int (p3 &&& (3 : Int32))), .val (.int (((p3.toUInt32 >>> ((2 : Int32) &&& 31).toUInt32).toInt32) &&& (3 : Int32))), .val (.int ff), .val (.int nn), .val (.ref b621), .val (.int (own_b (¬ (1 : Int32) = (3 : Int32)))), .val (.int s3), .val (.int e3), .val (.int (own_b (¬ s3 = nn))), .unset] [(.ref b621)])) rfl (by rw [hml]; rfl) (Steps.refl _) (argsL := []) (rest := []) (lenOf pd_5 rfl) rfl (by show 2 * 0 + _ ≤ _; exact Nat.le_of_eq rfl) (hb hby at_323) (fun _ _ => ⟨rfl, rfl, (by decide : 4 + 0 ≤ _), (by decide : 76 + 0 ≤ _)⟩)
    dsimp only [Pt.U, Pt.locs, Pt.cells, Pt.slots] at X763 l763 y763 z763 st763 hQ763
    obtain rfl : k763 = 4 := y763
    obtain rfl : n763 = 76 := z763
    obtain ⟨rfl, N763q, e763⟩ := hQ763
    have N763 : Fr n0 L763 := by rw [l763]; exact Fr.app N748 N763q
    have G766 : Go p e below A0 (T763.setTop (mkF m 326 #[.val (.int p0), .val (.int p1), .val (.int p2), .val (.int p3), .val (.ref b571), .val (.ref b594), .val (.int (p3 &&& (3 : Int32))), .val (.int (((p3.toUInt32 >>> ((2 : Int32) &&& 31).toUInt32).toInt32) &&& (3 : Int32))), .val (.int ff), .val (.int nn), .val (.ref b621), .val (.int (own_b (¬ (1 : Int32) = (3 : Int32)))), .val (.int s3), .val (.int e3), .val (.int (own_b (¬ s3 = nn))), .unset] [(.int (e3 - s3))])) := fun tq kq => G762 tq (st763.trans kq)
    have G767 : Go p e below A0 (T763.setTop (mkF m 338 #[.val (.int p0), .val (.int p1), .val (.int p2), .val (.int p3), .val (.ref b571), .val (.ref b594), .val (.int (p3 &&& (3 : Int32))), .val (.int (((p3.toUInt32 >>> ((2 : Int32) &&& 31).toUInt32).toInt32) &&& (3 : Int32))), .val (.int ff), .val (.int nn), .val (.ref b621), .val (.int (own_b (¬ (1 : Int32) = (3 : Int32)))), .val (.int s3), .val (.int e3), .val (.int (own_b (¬ s3 = nn))), .unset] [(.ref b621)])) := fun tq kq => G766 tq (by
      refine XS.iload X763.here hx rfl (hb hby at_326) rfl ?_
      show Steps p.tables e below (T763.setTop (mkF m 328 #[.val (.int p0), .val (.int p1), .val (.int p2), .val (.int p3), .val (.ref b571), .val (.ref b594), .val (.int (p3 &&& (3 : Int32))), .val (.int (((p3.toUInt32 >>> ((2 : Int32) &&& 31).toUInt32).toInt32) &&& (3 : Int32))), .val (.int ff), .val (.int nn), .val (.ref b621), .val (.int (own_b (¬ (1 : Int32) = (3 : Int32)))), .val (.int s3), .val (.int e3), .val (.int (own_b (¬ s3 = nn))), .unset] [(.int e3), (.int (e3 - s3))])) _
      refine XS.iload X763.here hx rfl (hb hby at_328) rfl ?_
      show Steps p.tables e below (T763.setTop (mkF m 330 #[.val (.int p0), .val (.int p1), .val (.int p2), .val (.int p3), .val (.ref b571), .val (.ref b594), .val (.int (p3 &&& (3 : Int32))), .val (.int (((p3.toUInt32 >>> ((2 : Int32) &&& 31).toUInt32).toInt32) &&& (3 : Int32))), .val (.int ff), .val (.int nn), .val (.ref b621), .val (.int (own_b (¬ (1 : Int32) = (3 : Int32)))), .val (.int s3), .val (.int e3), .val (.int (own_b (¬ s3 = nn))), .unset] [(.int s3), (.int e3), (.int (e3 - s3))])) _
      refine XS.isub X763.here hx rfl (hb hby at_330) rfl ?_
      show Steps p.tables e below (T763.setTop (mkF m 331 #[.val (.int p0), .val (.int p1), .val (.int p2), .val (.int p3), .val (.ref b571), .val (.ref b594), .val (.int (p3 &&& (3 : Int32))), .val (.int (((p3.toUInt32 >>> ((2 : Int32) &&& 31).toUInt32).toInt32) &&& (3 : Int32))), .val (.int ff), .val (.int nn), .val (.ref b621), .val (.int (own_b (¬ (1 : Int32) = (3 : Int32)))), .val (.int s3), .val (.int e3), .val (.int (own_b (¬ s3 = nn))), .unset] [(.int (e3 - s3)), (.int (e3 - s3))])) _
      refine XS.icmpYes X763.here hx rfl (pc0 := 331) (pc' := 336) rfl (hb hby at_331) rfl (teq (rfl : (e3 - s3) = (e3 - s3))).1 (by decide) (by decide) ?_
      show Steps p.tables e below (T763.setTop (mkF m 336 #[.val (.int p0), .val (.int p1), .val (.int p2), .val (.int p3), .val (.ref b571), .val (.ref b594), .val (.int (p3 &&& (3 : Int32))), .val (.int (((p3.toUInt32 >>> ((2 : Int32) &&& 31).toUInt32).toInt32) &&& (3 : Int32))), .val (.int ff), .val (.int nn), .val (.ref b621), .val (.int (own_b (¬ (1 : Int32) = (3 : Int32)))), .val (.int s3), .val (.int e3), .val (.int (own_b (¬ s3 = nn))), .unset] [])) _
      refine XS.aload X763.here hx rfl (hb hby at_336) rfl rfl ?_
      show Steps p.tables e below (T763.setTop (mkF m 338 #[.val (.int p0), .val (.int p1), .val (.int p2), .val (.int p3), .val (.ref b571), .val (.ref b594), .val (.int (p3 &&& (3 : Int32))), .val (.int (((p3.toUInt32 >>> ((2 : Int32) &&& 31).toUInt32).toInt32) &&& (3 : Int32))), .val (.int ff), .val (.int nn), .val (.ref b621), .val (.int (own_b (¬ (1 : Int32) = (3 : Int32)))), .val (.int s3), .val (.int e3), .val (.int (own_b (¬ s3 = nn))), .unset] [(.ref b621)])) _
      exact kq)
    obtain ⟨cq768, kq768, q768a, q768b, q768c⟩ := isOf hZ e763 f765
    obtain ⟨_, _, ⟨T768, L768, k768, n768⟩, -, X768, ⟨Lc768, hQ768, l768, y768, z768⟩, st768⟩ := X763.virtualBack hx (y := (⟨"com/example/subtree/subtree/index/PlainWords", "word", "()[B"⟩ : MethodName)) (z := (⟨"com/example/subtree/subtree/index/PlainWords", "word", "()[B"⟩ : MethodName)) hown (mvT hZ (hw _ (List.mem_of_getElem? (i := 49) rfl))) (mvT hZ (hw _ (List.mem_of_getElem? (i := 50) rfl))) (notFace_of_selects (args := #[]) (mvT hZ (hw _ (List.mem_of_getElem? (i := 52) rfl)))) (mvT hZ (hw _ (List.mem_of_getElem? (i := 52) rfl))) (mvT hZ (hw _ (List.mem_of_getElem? (i := 51) rfl))) (by decide) (backOf (W := 0) (rmW l Z a0 hw [] b621 wb T748.heap n0 f764 Fx748_4) hZ (hw _ (List.mem_of_getElem? (i := 53) rfl)) (hw _ (List.mem_of_getElem? (i := 10) rfl)) (by decide) (by decide)) q768a q768c (g := (mkF m 338 #[.val (.int p0), .val (.int p1), .val (.int p2), .val (.int p3), .val (.ref b571), .val (.ref b594), .val (.int (p3 &&& (3 : Int32))), .val (.int (((p3.toUInt32 >>> ((2 : Int32) &&& 31).toUInt32).toInt32) &&& (3 : Int32))), .val (.int ff), .val (.int nn), .val (.ref b621), .val (.int (own_b (¬ (1 : Int32) = (3 : Int32)))), .val (.int s3), .val (.int e3), .val (.int (own_b (¬ s3 = nn))), .unset] [(.ref b621)])) rfl (by rw [hml]; rfl) (Steps.refl _) (argsL := []) (rest := []) (lenOf pd_7 rfl) rfl (by show 2 * 0 + _ ≤ _; exact Nat.le_of_eq rfl) (hb hby at_338) (fun _ _ => ⟨rfl, e763, (by decide : 4 + 0 ≤ _), (by decide : 76 + 0 ≤ _)⟩)
    dsimp only [Pt.U, Pt.locs, Pt.cells, Pt.slots] at X768 l768 y768 z768 st768 hQ768
    obtain rfl : k768 = 4 := y768
    obtain rfl : n768 = 76 := z768
    obtain ⟨rfl, N768q, e768⟩ := hQ768
    have N768 : Fr n0 L768 := by rw [l768]; exact Fr.app N763 N768q
    have G769 : Go p e below A0 (T768.setTop (mkF m 341 #[.val (.int p0), .val (.int p1), .val (.int p2), .val (.int p3), .val (.ref b571), .val (.ref b594), .val (.int (p3 &&& (3 : Int32))), .val (.int (((p3.toUInt32 >>> ((2 : Int32) &&& 31).toUInt32).toInt32) &&& (3 : Int32))), .val (.int ff), .val (.int nn), .val (.ref b621), .val (.int (own_b (¬ (1 : Int32) = (3 : Int32)))), .val (.int s3), .val (.int e3), .val (.int (own_b (¬ s3 = nn))), .unset] [(.ref wb)])) := fun tq kq => G767 tq (st768.trans kq)
    have G770 : Go p e below A0 (T768.setTop (mkF m 352 #[.val (.int p0), .val (.int p1), .val (.int p2), .val (.int p3), .val (.ref b571), .val (.ref b594), .val (.int (p3 &&& (3 : Int32))), .val (.int (((p3.toUInt32 >>> ((2 : Int32) &&& 31).toUInt32).toInt32) &&& (3 : Int32))), .val (.int ff), .val (.int nn), .val (.ref b621), .val (.int (own_b (¬ (1 : Int32) = (3 : Int32)))), .val (.int s3), .val (.int e3), .val (.int (own_b (¬ s3 = nn))), .val (.ref wb)] [(.int e3), (.int (0 : Int32)), (.int s3), (.ref b594), (.ref wb)])) := fun tq kq => G769 tq (by
      refine XS.astore X768.here hx rfl (hb hby at_341) rfl rfl (l' := #[.val (.int p0), .val (.int p1), .val (.int p2), .val (.int p3), .val (.ref b571), .val (.ref b594), .val (.int (p3 &&& (3 : Int32))), .val (.int (((p3.toUInt32 >>> ((2 : Int32) &&& 31).toUInt32).toInt32) &&& (3 : Int32))), .val (.int ff), .val (.int nn), .val (.ref b621), .val (.int (own_b (¬ (1 : Int32) = (3 : Int32)))), .val (.int s3), .val (.int e3), .val (.int (own_b (¬ s3 = nn))), .val (.ref wb)]) rfl ?_
      show Steps p.tables e below (T768.setTop (mkF m 343 #[.val (.int p0), .val (.int p1), .val (.int p2), .val (.int p3), .val (.ref b571), .val (.ref b594), .val (.int (p3 &&& (3 : Int32))), .val (.int (((p3.toUInt32 >>> ((2 : Int32) &&& 31).toUInt32).toInt32) &&& (3 : Int32))), .val (.int ff), .val (.int nn), .val (.ref b621), .val (.int (own_b (¬ (1 : Int32) = (3 : Int32)))), .val (.int s3), .val (.int e3), .val (.int (own_b (¬ s3 = nn))), .val (.ref wb)] [])) _
      refine XS.aload X768.here hx rfl (hb hby at_343) rfl rfl ?_
      show Steps p.tables e below (T768.setTop (mkF m 345 #[.val (.int p0), .val (.int p1), .val (.int p2), .val (.int p3), .val (.ref b571), .val (.ref b594), .val (.int (p3 &&& (3 : Int32))), .val (.int (((p3.toUInt32 >>> ((2 : Int32) &&& 31).toUInt32).toInt32) &&& (3 : Int32))), .val (.int ff), .val (.int nn), .val (.ref b621), .val (.int (own_b (¬ (1 : Int32) = (3 : Int32)))), .val (.int s3), .val (.int e3), .val (.int (own_b (¬ s3 = nn))), .val (.ref wb)] [(.ref wb)])) _
      refine XS.aload X768.here hx rfl (hb hby at_345) rfl rfl ?_
      show Steps p.tables e below (T768.setTop (mkF m 347 #[.val (.int p0), .val (.int p1), .val (.int p2), .val (.int p3), .val (.ref b571), .val (.ref b594), .val (.int (p3 &&& (3 : Int32))), .val (.int (((p3.toUInt32 >>> ((2 : Int32) &&& 31).toUInt32).toInt32) &&& (3 : Int32))), .val (.int ff), .val (.int nn), .val (.ref b621), .val (.int (own_b (¬ (1 : Int32) = (3 : Int32)))), .val (.int s3), .val (.int e3), .val (.int (own_b (¬ s3 = nn))), .val (.ref wb)] [(.ref b594), (.ref wb)])) _
      refine XS.iload X768.here hx rfl (hb hby at_347) rfl ?_
      show Steps p.tables e below (T768.setTop (mkF m 349 #[.val (.int p0), .val (.int p1), .val (.int p2), .val (.int p3), .val (.ref b571), .val (.ref b594), .val (.int (p3 &&& (3 : Int32))), .val (.int (((p3.toUInt32 >>> ((2 : Int32) &&& 31).toUInt32).toInt32) &&& (3 : Int32))), .val (.int ff), .val (.int nn), .val (.ref b621), .val (.int (own_b (¬ (1 : Int32) = (3 : Int32)))), .val (.int s3), .val (.int e3), .val (.int (own_b (¬ s3 = nn))), .val (.ref wb)] [(.int s3), (.ref b594), (.ref wb)])) _
      refine XS.iconst X768.here hx rfl (hb hby at_349) ?_
      show Steps p.tables e below (T768.setTop (mkF m 350 #[.val (.int p0), .val (.int p1), .val (.int p2), .val (.int p3), .val (.ref b571), .val (.ref b594), .val (.int (p3 &&& (3 : Int32))), .val (.int (((p3.toUInt32 >>> ((2 : Int32) &&& 31).toUInt32).toInt32) &&& (3 : Int32))), .val (.int ff), .val (.int nn), .val (.ref b621), .val (.int (own_b (¬ (1 : Int32) = (3 : Int32)))), .val (.int s3), .val (.int e3), .val (.int (own_b (¬ s3 = nn))), .val (.ref wb)] [(.int (0 : Int32)), (.int s3), (.ref b594), (.ref wb)])) _
      refine XS.iload X768.here hx rfl (hb hby at_350) rfl ?_
      show Steps p.tables e below (T768.setTop (mkF m 352 #[.val (.int p0), .val (.int p1), .val (.int p2), .val (.int p3), .val (.ref b571), .val (.ref b594), .val (.int (p3 &&& (3 : Int32))), .val (.int (((p3.toUInt32 >>> ((2 : Int32) &&& 31).toUInt32).toInt32) &&& (3 : Int32))), .val (.int ff), .val (.int nn), .val (.ref b621), .val (.int (own_b (¬ (1 : Int32) = (3 : Int32)))), .val (.int s3), .val (.int e3), .val (.int (own_b (¬ s3 = nn))), .val (.ref wb)] [(.int e3), (.int (0 : Int32)), (.int s3), (.ref b594), (.ref wb)])) _
      exact kq)
    have f772 := (f749.keep K748 (ninS (Nat.ne_of_lt lt_b594_b621) (ninS (Nat.ne_of_lt lt_b594_wb) nin0)))
    obtain ⟨_, _, ⟨T771, L771, k771, n771⟩, -, X771, ⟨Lc771, hQ771, l771, y771, z771⟩, st771⟩ := Jvm.LawKit.callS X768 hx (y := (⟨"com/example/subtree/subtree/index/PlainWordsResetPinLaw", "same", "([B[CIII)Z"⟩ : MethodName)) hown (mvT hZ (hw _ (List.mem_of_getElem? (i := 54) rfl))) (mvT hZ (hw _ (List.mem_of_getElem? (i := 55) rfl))) (mvT hZ (hw _ (List.mem_of_getElem? (i := 47) rfl))) (mvT hZ (hw _ (List.mem_of_getElem? (i := 56) rfl))) (by decide) (backOf (W := 0) (rmSM0 l Z a0 hw [] wb b594 tt gp748 s3 e3 (3 : Int32) kw k594 T748.heap n0 f764 Aw748 f772 ct748.1 (own_ix zs3 ls3 le3 hn3).1) hZ (hw _ (List.mem_of_getElem? (i := 56) rfl)) (hw _ (List.mem_of_getElem? (i := 47) rfl)) (by decide) (by decide)) (g := (mkF m 352 #[.val (.int p0), .val (.int p1), .val (.int p2), .val (.int p3), .val (.ref b571), .val (.ref b594), .val (.int (p3 &&& (3 : Int32))), .val (.int (((p3.toUInt32 >>> ((2 : Int32) &&& 31).toUInt32).toInt32) &&& (3 : Int32))), .val (.int ff), .val (.int nn), .val (.ref b621), .val (.int (own_b (¬ (1 : Int32) = (3 : Int32)))), .val (.int s3), .val (.int e3), .val (.int (own_b (¬ s3 = nn))), .val (.ref wb)] [(.int e3), (.int (0 : Int32)), (.int s3), (.ref b594), (.ref wb)])) rfl (by rw [hml]; rfl) (argsL := [(.ref wb), (.ref b594), (.int s3), (.int (0 : Int32)), (.int e3)]) (rest := []) (lenOf pd_8 rfl) rfl (by show 2 * 0 + _ ≤ _; exact Nat.le_of_eq rfl) (hb hby at_352) (fun _ _ => ⟨rfl, e768, (by decide : 4 + 0 ≤ _), (by decide : 76 + 0 ≤ _)⟩)
    dsimp only [Pt.U, Pt.locs, Pt.cells, Pt.slots] at X771 l771 y771 z771 st771 hQ771
    obtain rfl : k771 = 4 := y771
    obtain rfl : n771 = 76 := z771
    obtain ⟨rfl, N771q, e771⟩ := hQ771
    have N771 : Fr n0 L771 := by rw [l771]; exact Fr.app N768 N771q
    have G773 : Go p e below A0 (T771.setTop (mkF m 355 #[.val (.int p0), .val (.int p1), .val (.int p2), .val (.int p3), .val (.ref b571), .val (.ref b594), .val (.int (p3 &&& (3 : Int32))), .val (.int (((p3.toUInt32 >>> ((2 : Int32) &&& 31).toUInt32).toInt32) &&& (3 : Int32))), .val (.int ff), .val (.int nn), .val (.ref b621), .val (.int (own_b (¬ (1 : Int32) = (3 : Int32)))), .val (.int s3), .val (.int e3), .val (.int (own_b (¬ s3 = nn))), .val (.ref wb)] [(.int (1 : Int32))])) := fun tq kq => G770 tq (st771 _ kq)
    have G774 : Go p e below A0 (T771.setTop (mkF m 367 #[.val (.int p0), .val (.int p1), .val (.int p2), .val (.int p3), .val (.ref b571), .val (.ref b594), .val (.int (p3 &&& (3 : Int32))), .val (.int (((p3.toUInt32 >>> ((2 : Int32) &&& 31).toUInt32).toInt32) &&& (3 : Int32))), .val (.int ff), .val (.int nn), .val (.ref b621), .val (.int (own_b (¬ (1 : Int32) = (3 : Int32)))), .val (.int s3), .val (.int e3), .val (.int (own_b (¬ s3 = nn))), .val (.ref wb)] [(.int e3), (.int (1 : Int32)), (.int s3), (.ref b594), (.ref wb)])) := fun tq kq => G773 tq (by
      refine XS.ifNo X771.here hx rfl (hb hby at_355) rfl (by decide) ?_
      show Steps p.tables e below (T771.setTop (mkF m 358 #[.val (.int p0), .val (.int p1), .val (.int p2), .val (.int p3), .val (.ref b571), .val (.ref b594), .val (.int (p3 &&& (3 : Int32))), .val (.int (((p3.toUInt32 >>> ((2 : Int32) &&& 31).toUInt32).toInt32) &&& (3 : Int32))), .val (.int ff), .val (.int nn), .val (.ref b621), .val (.int (own_b (¬ (1 : Int32) = (3 : Int32)))), .val (.int s3), .val (.int e3), .val (.int (own_b (¬ s3 = nn))), .val (.ref wb)] [])) _
      refine XS.aload X771.here hx rfl (hb hby at_358) rfl rfl ?_
      show Steps p.tables e below (T771.setTop (mkF m 360 #[.val (.int p0), .val (.int p1), .val (.int p2), .val (.int p3), .val (.ref b571), .val (.ref b594), .val (.int (p3 &&& (3 : Int32))), .val (.int (((p3.toUInt32 >>> ((2 : Int32) &&& 31).toUInt32).toInt32) &&& (3 : Int32))), .val (.int ff), .val (.int nn), .val (.ref b621), .val (.int (own_b (¬ (1 : Int32) = (3 : Int32)))), .val (.int s3), .val (.int e3), .val (.int (own_b (¬ s3 = nn))), .val (.ref wb)] [(.ref wb)])) _
      refine XS.aload X771.here hx rfl (hb hby at_360) rfl rfl ?_
      show Steps p.tables e below (T771.setTop (mkF m 362 #[.val (.int p0), .val (.int p1), .val (.int p2), .val (.int p3), .val (.ref b571), .val (.ref b594), .val (.int (p3 &&& (3 : Int32))), .val (.int (((p3.toUInt32 >>> ((2 : Int32) &&& 31).toUInt32).toInt32) &&& (3 : Int32))), .val (.int ff), .val (.int nn), .val (.ref b621), .val (.int (own_b (¬ (1 : Int32) = (3 : Int32)))), .val (.int s3), .val (.int e3), .val (.int (own_b (¬ s3 = nn))), .val (.ref wb)] [(.ref b594), (.ref wb)])) _
      refine XS.iload X771.here hx rfl (hb hby at_362) rfl ?_
      show Steps p.tables e below (T771.setTop (mkF m 364 #[.val (.int p0), .val (.int p1), .val (.int p2), .val (.int p3), .val (.ref b571), .val (.ref b594), .val (.int (p3 &&& (3 : Int32))), .val (.int (((p3.toUInt32 >>> ((2 : Int32) &&& 31).toUInt32).toInt32) &&& (3 : Int32))), .val (.int ff), .val (.int nn), .val (.ref b621), .val (.int (own_b (¬ (1 : Int32) = (3 : Int32)))), .val (.int s3), .val (.int e3), .val (.int (own_b (¬ s3 = nn))), .val (.ref wb)] [(.int s3), (.ref b594), (.ref wb)])) _
      refine XS.iconst X771.here hx rfl (hb hby at_364) ?_
      show Steps p.tables e below (T771.setTop (mkF m 365 #[.val (.int p0), .val (.int p1), .val (.int p2), .val (.int p3), .val (.ref b571), .val (.ref b594), .val (.int (p3 &&& (3 : Int32))), .val (.int (((p3.toUInt32 >>> ((2 : Int32) &&& 31).toUInt32).toInt32) &&& (3 : Int32))), .val (.int ff), .val (.int nn), .val (.ref b621), .val (.int (own_b (¬ (1 : Int32) = (3 : Int32)))), .val (.int s3), .val (.int e3), .val (.int (own_b (¬ s3 = nn))), .val (.ref wb)] [(.int (1 : Int32)), (.int s3), (.ref b594), (.ref wb)])) _
      refine XS.iload X771.here hx rfl (hb hby at_365) rfl ?_
      show Steps p.tables e below (T771.setTop (mkF m 367 #[.val (.int p0), .val (.int p1), .val (.int p2), .val (.int p3), .val (.ref b571), .val (.ref b594), .val (.int (p3 &&& (3 : Int32))), .val (.int (((p3.toUInt32 >>> ((2 : Int32) &&& 31).toUInt32).toInt32) &&& (3 : Int32))), .val (.int ff), .val (.int nn), .val (.ref b621), .val (.int (own_b (¬ (1 : Int32) = (3 : Int32)))), .val (.int s3), .val (.int e3), .val (.int (own_b (¬ s3 = nn))), .val (.ref wb)] [(.int e3), (.int (1 : Int32)), (.int s3), (.ref b594), (.ref wb)])) _
      exact kq)
    obtain ⟨_, _, ⟨T775, L775, k775, n775⟩, -, X775, ⟨Lc775, hQ775, l775, y775, z775⟩, st775⟩ := Jvm.LawKit.callS X771 hx (y := (⟨"com/example/subtree/subtree/index/PlainWordsResetPinLaw", "same", "([B[CIII)Z"⟩ : MethodName)) hown (mvT hZ (hw _ (List.mem_of_getElem? (i := 54) rfl))) (mvT hZ (hw _ (List.mem_of_getElem? (i := 55) rfl))) (mvT hZ (hw _ (List.mem_of_getElem? (i := 47) rfl))) (mvT hZ (hw _ (List.mem_of_getElem? (i := 56) rfl))) (by decide) (backOf (W := 0) (rmSM1 l Z a0 hw [] wb b594 tt gp748 s3 e3 (3 : Int32) kw k594 T748.heap n0 f764 Aw748 f772 ct748.2.1 (own_ix zs3 ls3 le3 hn3).2.1) hZ (hw _ (List.mem_of_getElem? (i := 56) rfl)) (hw _ (List.mem_of_getElem? (i := 47) rfl)) (by decide) (by decide)) (g := (mkF m 367 #[.val (.int p0), .val (.int p1), .val (.int p2), .val (.int p3), .val (.ref b571), .val (.ref b594), .val (.int (p3 &&& (3 : Int32))), .val (.int (((p3.toUInt32 >>> ((2 : Int32) &&& 31).toUInt32).toInt32) &&& (3 : Int32))), .val (.int ff), .val (.int nn), .val (.ref b621), .val (.int (own_b (¬ (1 : Int32) = (3 : Int32)))), .val (.int s3), .val (.int e3), .val (.int (own_b (¬ s3 = nn))), .val (.ref wb)] [(.int e3), (.int (1 : Int32)), (.int s3), (.ref b594), (.ref wb)])) rfl (by rw [hml]; rfl) (argsL := [(.ref wb), (.ref b594), (.int s3), (.int (1 : Int32)), (.int e3)]) (rest := []) (lenOf pd_8 rfl) rfl (by show 2 * 0 + _ ≤ _; exact Nat.le_of_eq rfl) (hb hby at_367) (fun _ _ => ⟨rfl, e771, (by decide : 4 + 0 ≤ _), (by decide : 76 + 0 ≤ _)⟩)
    dsimp only [Pt.U, Pt.locs, Pt.cells, Pt.slots] at X775 l775 y775 z775 st775 hQ775
    obtain rfl : k775 = 4 := y775
    obtain rfl : n775 = 76 := z775
    obtain ⟨rfl, N775q, e775⟩ := hQ775
    have N775 : Fr n0 L775 := by rw [l775]; exact Fr.app N771 N775q
    have G776 : Go p e below A0 (T775.setTop (mkF m 370 #[.val (.int p0), .val (.int p1), .val (.int p2), .val (.int p3), .val (.ref b571), .val (.ref b594), .val (.int (p3 &&& (3 : Int32))), .val (.int (((p3.toUInt32 >>> ((2 : Int32) &&& 31).toUInt32).toInt32) &&& (3 : Int32))), .val (.int ff), .val (.int nn), .val (.ref b621), .val (.int (own_b (¬ (1 : Int32) = (3 : Int32)))), .val (.int s3), .val (.int e3), .val (.int (own_b (¬ s3 = nn))), .val (.ref wb)] [(.int (1 : Int32))])) := fun tq kq => G774 tq (st775 _ kq)
    have G777 : Go p e below A0 (T775.setTop (mkF m 382 #[.val (.int p0), .val (.int p1), .val (.int p2), .val (.int p3), .val (.ref b571), .val (.ref b594), .val (.int (p3 &&& (3 : Int32))), .val (.int (((p3.toUInt32 >>> ((2 : Int32) &&& 31).toUInt32).toInt32) &&& (3 : Int32))), .val (.int ff), .val (.int nn), .val (.ref b621), .val (.int (own_b (¬ (1 : Int32) = (3 : Int32)))), .val (.int s3), .val (.int e3), .val (.int (own_b (¬ s3 = nn))), .val (.ref wb)] [(.int e3), (.int (2 : Int32)), (.int s3), (.ref b594), (.ref wb)])) := fun tq kq => G776 tq (by
      refine XS.ifNo X775.here hx rfl (hb hby at_370) rfl (by decide) ?_
      show Steps p.tables e below (T775.setTop (mkF m 373 #[.val (.int p0), .val (.int p1), .val (.int p2), .val (.int p3), .val (.ref b571), .val (.ref b594), .val (.int (p3 &&& (3 : Int32))), .val (.int (((p3.toUInt32 >>> ((2 : Int32) &&& 31).toUInt32).toInt32) &&& (3 : Int32))), .val (.int ff), .val (.int nn), .val (.ref b621), .val (.int (own_b (¬ (1 : Int32) = (3 : Int32)))), .val (.int s3), .val (.int e3), .val (.int (own_b (¬ s3 = nn))), .val (.ref wb)] [])) _
      refine XS.aload X775.here hx rfl (hb hby at_373) rfl rfl ?_
      show Steps p.tables e below (T775.setTop (mkF m 375 #[.val (.int p0), .val (.int p1), .val (.int p2), .val (.int p3), .val (.ref b571), .val (.ref b594), .val (.int (p3 &&& (3 : Int32))), .val (.int (((p3.toUInt32 >>> ((2 : Int32) &&& 31).toUInt32).toInt32) &&& (3 : Int32))), .val (.int ff), .val (.int nn), .val (.ref b621), .val (.int (own_b (¬ (1 : Int32) = (3 : Int32)))), .val (.int s3), .val (.int e3), .val (.int (own_b (¬ s3 = nn))), .val (.ref wb)] [(.ref wb)])) _
      refine XS.aload X775.here hx rfl (hb hby at_375) rfl rfl ?_
      show Steps p.tables e below (T775.setTop (mkF m 377 #[.val (.int p0), .val (.int p1), .val (.int p2), .val (.int p3), .val (.ref b571), .val (.ref b594), .val (.int (p3 &&& (3 : Int32))), .val (.int (((p3.toUInt32 >>> ((2 : Int32) &&& 31).toUInt32).toInt32) &&& (3 : Int32))), .val (.int ff), .val (.int nn), .val (.ref b621), .val (.int (own_b (¬ (1 : Int32) = (3 : Int32)))), .val (.int s3), .val (.int e3), .val (.int (own_b (¬ s3 = nn))), .val (.ref wb)] [(.ref b594), (.ref wb)])) _
      refine XS.iload X775.here hx rfl (hb hby at_377) rfl ?_
      show Steps p.tables e below (T775.setTop (mkF m 379 #[.val (.int p0), .val (.int p1), .val (.int p2), .val (.int p3), .val (.ref b571), .val (.ref b594), .val (.int (p3 &&& (3 : Int32))), .val (.int (((p3.toUInt32 >>> ((2 : Int32) &&& 31).toUInt32).toInt32) &&& (3 : Int32))), .val (.int ff), .val (.int nn), .val (.ref b621), .val (.int (own_b (¬ (1 : Int32) = (3 : Int32)))), .val (.int s3), .val (.int e3), .val (.int (own_b (¬ s3 = nn))), .val (.ref wb)] [(.int s3), (.ref b594), (.ref wb)])) _
      refine XS.iconst X775.here hx rfl (hb hby at_379) ?_
      show Steps p.tables e below (T775.setTop (mkF m 380 #[.val (.int p0), .val (.int p1), .val (.int p2), .val (.int p3), .val (.ref b571), .val (.ref b594), .val (.int (p3 &&& (3 : Int32))), .val (.int (((p3.toUInt32 >>> ((2 : Int32) &&& 31).toUInt32).toInt32) &&& (3 : Int32))), .val (.int ff), .val (.int nn), .val (.ref b621), .val (.int (own_b (¬ (1 : Int32) = (3 : Int32)))), .val (.int s3), .val (.int e3), .val (.int (own_b (¬ s3 = nn))), .val (.ref wb)] [(.int (2 : Int32)), (.int s3), (.ref b594), (.ref wb)])) _
      refine XS.iload X775.here hx rfl (hb hby at_380) rfl ?_
      show Steps p.tables e below (T775.setTop (mkF m 382 #[.val (.int p0), .val (.int p1), .val (.int p2), .val (.int p3), .val (.ref b571), .val (.ref b594), .val (.int (p3 &&& (3 : Int32))), .val (.int (((p3.toUInt32 >>> ((2 : Int32) &&& 31).toUInt32).toInt32) &&& (3 : Int32))), .val (.int ff), .val (.int nn), .val (.ref b621), .val (.int (own_b (¬ (1 : Int32) = (3 : Int32)))), .val (.int s3), .val (.int e3), .val (.int (own_b (¬ s3 = nn))), .val (.ref wb)] [(.int e3), (.int (2 : Int32)), (.int s3), (.ref b594), (.ref wb)])) _
      exact kq)
    obtain ⟨_, _, ⟨T778, L778, k778, n778⟩, -, X778, ⟨Lc778, hQ778, l778, y778, z778⟩, st778⟩ := Jvm.LawKit.callS X775 hx (y := (⟨"com/example/subtree/subtree/index/PlainWordsResetPinLaw", "same", "([B[CIII)Z"⟩ : MethodName)) hown (mvT hZ (hw _ (List.mem_of_getElem? (i := 54) rfl))) (mvT hZ (hw _ (List.mem_of_getElem? (i := 55) rfl))) (mvT hZ (hw _ (List.mem_of_getElem? (i := 47) rfl))) (mvT hZ (hw _ (List.mem_of_getElem? (i := 56) rfl))) (by decide) (backOf (W := 0) (rmSM2 l Z a0 hw [] wb b594 tt gp748 s3 e3 (3 : Int32) kw k594 T748.heap n0 f764 Aw748 f772 ct748.2.2 (own_ix zs3 ls3 le3 hn3).2.2) hZ (hw _ (List.mem_of_getElem? (i := 56) rfl)) (hw _ (List.mem_of_getElem? (i := 47) rfl)) (by decide) (by decide)) (g := (mkF m 382 #[.val (.int p0), .val (.int p1), .val (.int p2), .val (.int p3), .val (.ref b571), .val (.ref b594), .val (.int (p3 &&& (3 : Int32))), .val (.int (((p3.toUInt32 >>> ((2 : Int32) &&& 31).toUInt32).toInt32) &&& (3 : Int32))), .val (.int ff), .val (.int nn), .val (.ref b621), .val (.int (own_b (¬ (1 : Int32) = (3 : Int32)))), .val (.int s3), .val (.int e3), .val (.int (own_b (¬ s3 = nn))), .val (.ref wb)] [(.int e3), (.int (2 : Int32)), (.int s3), (.ref b594), (.ref wb)])) rfl (by rw [hml]; rfl) (argsL := [(.ref wb), (.ref b594), (.int s3), (.int (2 : Int32)), (.int e3)]) (rest := []) (lenOf pd_8 rfl) rfl (by show 2 * 0 + _ ≤ _; exact Nat.le_of_eq rfl) (hb hby at_382) (fun _ _ => ⟨rfl, e775, (by decide : 4 + 0 ≤ _), (by decide : 76 + 0 ≤ _)⟩)
    dsimp only [Pt.U, Pt.locs, Pt.cells, Pt.slots] at X778 l778 y778 z778 st778 hQ778
    obtain rfl : k778 = 4 := y778
    obtain rfl : n778 = 76 := z778
    obtain ⟨rfl, N778q, e778⟩ := hQ778
    have N778 : Fr n0 L778 := by rw [l778]; exact Fr.app N775 N778q
    have G779 : Go p e below A0 (T778.setTop (mkF m 385 #[.val (.int p0), .val (.int p1), .val (.int p2), .val (.int p3), .val (.ref b571), .val (.ref b594), .val (.int (p3 &&& (3 : Int32))), .val (.int (((p3.toUInt32 >>> ((2 : Int32) &&& 31).toUInt32).toInt32) &&& (3 : Int32))), .val (.int ff), .val (.int nn), .val (.ref b621), .val (.int (own_b (¬ (1 : Int32) = (3 : Int32)))), .val (.int s3), .val (.int e3), .val (.int (own_b (¬ s3 = nn))), .val (.ref wb)] [(.int (1 : Int32))])) := fun tq kq => G777 tq (st778 _ kq)
    have G780 : Go p e below A0 (T778.setTop (mkF m 393 #[.val (.int p0), .val (.int p1), .val (.int p2), .val (.int p3), .val (.ref b571), .val (.ref b594), .val (.int (p3 &&& (3 : Int32))), .val (.int (((p3.toUInt32 >>> ((2 : Int32) &&& 31).toUInt32).toInt32) &&& (3 : Int32))), .val (.int ff), .val (.int nn), .val (.ref b621), .val (.int (own_b (¬ (1 : Int32) = (3 : Int32)))), .val (.int s3), .val (.int e3), .val (.int (own_b (¬ s3 = nn))), .val (.ref wb)] [(.int (1 : Int32))])) := fun tq kq => G779 tq (by
      refine XS.ifNo X778.here hx rfl (hb hby at_385) rfl (by decide) ?_
      show Steps p.tables e below (T778.setTop (mkF m 388 #[.val (.int p0), .val (.int p1), .val (.int p2), .val (.int p3), .val (.ref b571), .val (.ref b594), .val (.int (p3 &&& (3 : Int32))), .val (.int (((p3.toUInt32 >>> ((2 : Int32) &&& 31).toUInt32).toInt32) &&& (3 : Int32))), .val (.int ff), .val (.int nn), .val (.ref b621), .val (.int (own_b (¬ (1 : Int32) = (3 : Int32)))), .val (.int s3), .val (.int e3), .val (.int (own_b (¬ s3 = nn))), .val (.ref wb)] [])) _
      refine XS.iconst X778.here hx rfl (hb hby at_388) ?_
      show Steps p.tables e below (T778.setTop (mkF m 389 #[.val (.int p0), .val (.int p1), .val (.int p2), .val (.int p3), .val (.ref b571), .val (.ref b594), .val (.int (p3 &&& (3 : Int32))), .val (.int (((p3.toUInt32 >>> ((2 : Int32) &&& 31).toUInt32).toInt32) &&& (3 : Int32))), .val (.int ff), .val (.int nn), .val (.ref b621), .val (.int (own_b (¬ (1 : Int32) = (3 : Int32)))), .val (.int s3), .val (.int e3), .val (.int (own_b (¬ s3 = nn))), .val (.ref wb)] [(.int (1 : Int32))])) _
      refine XS.goto X778.here hx rfl (pc0 := 389) (pc' := 393) rfl (hb hby at_389) (by decide) (by decide) ?_
      show Steps p.tables e below (T778.setTop (mkF m 393 #[.val (.int p0), .val (.int p1), .val (.int p2), .val (.int p3), .val (.ref b571), .val (.ref b594), .val (.int (p3 &&& (3 : Int32))), .val (.int (((p3.toUInt32 >>> ((2 : Int32) &&& 31).toUInt32).toInt32) &&& (3 : Int32))), .val (.int ff), .val (.int nn), .val (.ref b621), .val (.int (own_b (¬ (1 : Int32) = (3 : Int32)))), .val (.int s3), .val (.int e3), .val (.int (own_b (¬ s3 = nn))), .val (.ref wb)] [(.int (1 : Int32))])) _
      exact kq)
    obtain ⟨fs, hr, hrun, hended, hW, hsame⟩ := X778.leave (v := some (.int (nar .boolean (1 : Int32)))) (fun h => by rw [Bd.returns] at h; cases h)
    refine ⟨_, _, (by rw [← hA0]; exact G780 _ (retN X778 hx (t := .boolean) Bd.returns (by simp) (hb hby at_393) hr)), hrun, hended, _, _, rfl, ?_, ⟨_, rfl⟩, hW, hsame.mono (by decide) (by decide)⟩
    exact ⟨rfl, N778⟩
set_option maxRecDepth 65536 in
set_option maxHeartbeats 40000000 in
theorem comes_1 {Post : Tables → Env → Array Value → State → Outcome → State → Prop} (hpost : ∀ tb e args s v u, (limb_1_1.after args s (.returned v) u = true ∧ limb_1_2.after args s (.returned v) u = true ∧ True) → FrameEnd s (.returned v) u (Jvm.fieldLocs frame_1_writes args s ++ Jvm.arrayLocs frame_1_arrays args s ++ Jvm.staticLocs frame_1_statics s) 16 256 → Post tb e args s (.returned v) u) :
    ArmFor flags0 classFile x code maxLocals ret World_1 tables_1 room_1 Calls_1 rest_1 Pre_1 Post := by
  intro l hfl _ _ p e ha hc hk s m args below hf hA hF happ hP
  obtain ⟨hcalls, hrest, hpre⟩ := hP
  obtain ⟨-, -, -, hnamed, -, -, -, hat⟩ := (Spec.applies_iff hf).mp happ
  obtain ⟨hg, hn⟩ := and_e (Cond.before_iff.mp (show (Jvm.Cond.and given_1 narrow_1).before args s = true from hpre))
  obtain ⟨g1, g2⟩ := and_e hg
  obtain ⟨g3, g4⟩ := and_e g2
  obtain ⟨g5, g6⟩ := and_e g4
  obtain ⟨g7, g8⟩ := and_e g6
  obtain ⟨w0, w1, w2, w3, rfl⟩ : ∃ w0 w1 w2 w3 : Value, args = #[w0, w1, w2, w3] := by
    have hs : args.size = 4 := by simpa [Cond.value, given_1] using g1
    obtain ⟨L⟩ := args
    match L, hs with
    | [w0, w1, w2, w3], _ => exact ⟨w0, w1, w2, w3, rfl⟩
  have hw := fun d (hd : d ∈ tables_1) => atoms_spec (ws := Jvm.Cond.code x code maxLocals ret :: tables_1) hat d (List.mem_cons_of_mem _ hd)
  have hfit : Fit s := fun {y c} hc i hi => by
    obtain ⟨ha, rfl⟩ := Array.getElem?_eq_some_iff.mp hc
    have q := List.all_eq_true.mp ((Array.all_eq_true_iff_forall_mem.mp hF) _ (Array.getElem_mem ha)) i (List.mem_range.mpr hi)
    simpa [Array.getElem?_eq_getElem hi] using q
  obtain ⟨i0, ei0⟩ := is_v g3
  obtain rfl : w0 = (.int i0) := Option.some.inj ei0
  obtain ⟨i1, ei1⟩ := is_v g5
  obtain rfl : w1 = (.int i1) := Option.some.inj ei1
  obtain ⟨i2, ei2⟩ := is_v g7
  obtain rfl : w2 = (.int i2) := Option.some.inj ei2
  obtain ⟨i3, ei3⟩ := is_v g8
  obtain rfl : w3 = (.int i3) := Option.some.inj ei3
  obtain ⟨u1, u2⟩ := and_e hn
  obtain ⟨a_ASCII_WORD_BYTES, ea_ASCII_WORD_BYTES⟩ := arr_v u1
  have S_ASCII_WORD_BYTES : Sta s s.heap "com/example/subtree/subtree/index/PlainWords" "ASCII_WORD_BYTES" "[B" (.ref a_ASCII_WORD_BYTES) := Sta.start ea_ASCII_WORD_BYTES (Or.inr ⟨(hw _ (List.mem_of_getElem? (i := 10) rfl)), (hw _ (List.mem_of_getElem? (i := 39) rfl))⟩)
  obtain ⟨cl_a_ASCII_WORD_BYTES, Ar_a_ASCII_WORD_BYTES⟩ := Arr.start ea_ASCII_WORD_BYTES u1
  obtain ⟨u3, u4⟩ := and_e u2
  have q5 := own_eqI u3
  obtain ⟨u6, u7⟩ := and_e u4
  obtain ⟨u8, u9⟩ := and_e u7
  obtain ⟨u10, u11⟩ := and_e u9
  obtain ⟨u12, u13⟩ := and_e u11
  obtain ⟨u14, u15⟩ := and_e u13
  obtain ⟨u16, u17⟩ := and_e u15
  have ql := own_arv Ar_a_ASCII_WORD_BYTES ea_ASCII_WORD_BYTES q5
  have hsz : cl_a_ASCII_WORD_BYTES.slots.size = 128 := own_size ql.1 ql.2 rfl
  have hT := own_tabA Ar_a_ASCII_WORD_BYTES hsz (fun hj hj' => own_tab Ar_a_ASCII_WORD_BYTES ea_ASCII_WORD_BYTES (fun i => by simpa only [Term.eval] using ea_ASCII_WORD_BYTES) hsz u6 u8 u10 u12 u14 u16 u17 hj hj')
  obtain ⟨n, o, h1, h2, h3, _, L, rfl, ⟨rfl, N⟩, hq⟩ := rm0 l s _ hw tables_1 i0 i1 i2 i3 a_ASCII_WORD_BYTES cl_a_ASCII_WORD_BYTES.cls s.heap s.heap.size (Nat.le_refl _) (Old.start s) S_ASCII_WORD_BYTES hT p e ha hc hk s m _ below hf ((Spec.applies_iff_loose hf).mp happ).1 ⟨rfl, State.Warmed39.refl s, rfl⟩ trivial
  refine ⟨n, _, h1, h2, h3, hpost _ _ _ _ _ _ ⟨Cond.after_iff.mpr rfl, Cond.after_iff.mpr (eq_i res_at (Term.int_eval (1)) rfl), trivial⟩ ⟨hq.1, hq.2.1, (hq.2.2.sift fun y hy => Or.inr (N y hy)).mono (by decide) (by decide)⟩⟩
theorem main_1_1 : Claimed_1_1 := comes_1 fun _ _ _ _ _ _ h hF => ⟨h.1, hF⟩
theorem main_1_2 : Claimed_1_2 := comes_1 fun _ _ _ _ _ _ h hF => ⟨h.2.1, hF⟩
end Jvm.Pilot.@@N@@
namespace Jvm.Pilot.@@N@@
open Jvm Jvm.ClassFile Sem Op Lib Jvm.Free Jvm.Stand Jvm.Pilot.@@N@@.Jvm.D
/-! MADE BY PROGRAM (witnessworld.py) out of the Statement's table words and the real class files: 12 classes; the members and pool entries that the words name. The judged class is class 1, her method 1. -/
namespace start1
open Jvm.ClassFile
def u (s : String) : CpInfo := .utf8 (stringToUtf16 s)
/-- a pool by its gaps: so many unusable entries, then the entry; so many at the end -/
def gap : Nat → List CpInfo → List CpInfo
  | 0, r => r
  | n + 1, r => .unusable :: gap n r
def poolList (es : List (Nat × CpInfo)) (last : Nat) : List CpInfo := es.foldr (fun e r => gap e.1 (e.2 :: r)) (gap last [])
def pool (es : List (Nat × CpInfo)) (last : Nat) : Array CpInfo := ⟨poolList es last⟩
def fileOf (pool : Array CpInfo) (this : Nat) (attrs : Array Attribute := #[]) (ms : Array MethodInfo := #[]) (fl : Nat := 33) (sup : Nat := 0) (ifs : Array Nat := #[]) (fds : Array FieldInfo := #[]) : ClassFile where
  minorVersion := 0
  majorVersion := 65
  constantPool := pool
  accessFlags := fl
  thisClass := this
  superClass := sup
  interfaces := ifs
  fields := fds
  methods := ms
  attributes := attrs
def plain (name : String) (sup : Option ClassId) : Class where
  name := name
  kind := .ordinary
  loader := none
  accessFlags := 33
  super := sup
  interfaces := #[]
  cf := none
  fields := #[]
  methods := #[]
  instanceTypes := #[]
  staticTypes := #[]
  resolved := #[]
  callSites := []
  init := .initialized
  statics := none
  mirror := none

def pool0 : Array CpInfo := pool [(5, u "<init>"), (0, u "()V"), (1, .class_ 10), (1, u "java/lang/Object")] 113

def k0c0 : Code := { maxStack := 0, maxLocals := 1, code := object_method_1_code, exceptionTable := #[], attributes := #[] }
def k0m0 : Method := { name := "<init>", desc := "()V", sig := { parameters := [], returnType := none }, accessFlags := 1, code := some k0c0 }
/-- java/lang/Object -/
def k0 : Class := { plain "java/lang/Object" none with
  accessFlags := 33
  interfaces := #[]
  cf := some (fileOf pool0 8 #[] #[{ accessFlags := 1, nameIndex := 5, descriptorIndex := 6, attributes := #[] }] 33 0 #[] #[])
  fields := #[]
  methods := #[k0m0]
  instanceTypes := #[]
  staticTypes := #[]
  resolved := Array.replicate 124 none
  statics := none }

def pool1 : Array CpInfo := pool [(2, .class_ 4), (0, .nameAndType 5 6), (0, u "java/lang/Object"), (0, u "<init>"), (0, u "()V"), (0, .methodref 8 9), (0, .class_ 10), (0, .nameAndType 11 12), (0, u "java/lang/Math"), (0, u "min"), (0, u "(II)I"), (0, .methodref 8 14), (0, .nameAndType 15 12), (0, u "max"), (0, .class_ 17), (0, u "com/example/subtree/subtree/index/PlainWords"), (0, .methodref 16 3), (0, .methodref 16 20), (0, .nameAndType 21 22), (0, u "reset"), (0, u "([CII)V"), (0, .methodref 16 24), (0, .nameAndType 25 26), (0, u "next"), (0, u "()Z"), (0, .methodref 16 28), (0, .nameAndType 29 30), (0, u "length"), (0, u "()I"), (0, .methodref 32 33), (0, .class_ 34), (0, .nameAndType 35 36), (0, u "com/example/subtree/subtree/index/PlainWordsResetPinLaw"), (0, u "isWord"), (0, u "(C)Z"), (0, .methodref 16 38), (0, .nameAndType 39 40), (0, u "word"), (0, u "()[B"), (0, .methodref 32 42), (0, .nameAndType 43 44), (0, u "same"), (0, u "([B[CIII)Z"), (0, .methodref 32 46), (0, .nameAndType 47 48), (0, u "lower"), (0, u "(C)I"), (2, u "law"), (0, u "(IIII)Z")] 7

def k1m0 : Method := { name := "<init>", desc := "()V", sig := { parameters := [], returnType := none }, accessFlags := 1, code := none }
def k1c1 : Code := { maxStack := 5, maxLocals := 16, code := code, exceptionTable := #[], attributes := #[] }
def k1m1 : Method := { name := "law", desc := "(IIII)Z", sig := { parameters := [.int, .int, .int, .int], returnType := some .boolean }, accessFlags := 9, code := some k1c1 }
def k1c2 : Code := { maxStack := 2, maxLocals := 1, code := method_3_code, exceptionTable := #[], attributes := #[] }
def k1m2 : Method := { name := "isWord", desc := "(C)Z", sig := { parameters := [.char], returnType := some .boolean }, accessFlags := 10, code := some k1c2 }
def k1c3 : Code := { maxStack := 2, maxLocals := 1, code := method_4_code, exceptionTable := #[], attributes := #[] }
def k1m3 : Method := { name := "lower", desc := "(C)I", sig := { parameters := [.char], returnType := some .int }, accessFlags := 10, code := some k1c3 }
def k1c4 : Code := { maxStack := 4, maxLocals := 5, code := method_5_code, exceptionTable := #[], attributes := #[] }
def k1m4 : Method := { name := "same", desc := "([B[CIII)Z", sig := { parameters := [(.array .byte), (.array .char), .int, .int, .int], returnType := some .boolean }, accessFlags := 10, code := some k1c4 }
/-- com/example/subtree/subtree/index/PlainWordsResetPinLaw -/
def k1 : Class := { plain "com/example/subtree/subtree/index/PlainWordsResetPinLaw" (some 0) with
  accessFlags := 49
  interfaces := #[]
  cf := some (fileOf pool1 32 #[] #[{ accessFlags := 1, nameIndex := 5, descriptorIndex := 6, attributes := #[] }, { accessFlags := 9, nameIndex := 51, descriptorIndex := 52, attributes := #[] }, { accessFlags := 10, nameIndex := 35, descriptorIndex := 36, attributes := #[] }, { accessFlags := 10, nameIndex := 47, descriptorIndex := 48, attributes := #[] }, { accessFlags := 10, nameIndex := 43, descriptorIndex := 44, attributes := #[] }] 49 2 #[] #[])
  fields := #[]
  methods := #[k1m0, k1m1, k1m2, k1m3, k1m4]
  instanceTypes := #[]
  staticTypes := #[]
  resolved := Array.replicate 60 none
  statics := none }

def pool2 : Array CpInfo := pool [(1, .class_ 2), (0, u "java/lang/Math"), (1, .class_ 6), (1, u "java/lang/Object"), (0, u "<init>"), (0, u "()V"), (89, .class_ 100), (1, u "java/lang/Math$RandomNumberGeneratorHolder"), (71, u "negativeZeroFloatBits"), (0, u "J"), (2, u "negativeZeroDoubleBits"), (21, u "max"), (2, u "min"), (43, u "$assertionsDisabled"), (0, u "Z"), (88, u "(II)I"), (2, u "twoToTheDoubleScaleDown"), (0, u "D"), (4, u "twoToTheDoubleScaleUp"), (9, u "E"), (3, u "PI"), (2, u "TAU"), (2, u "DEGREES_TO_RADIANS"), (0, u "RADIANS_TO_DEGREES")] 94

def k2m0 : Method := { name := "<init>", desc := "()V", sig := { parameters := [], returnType := none }, accessFlags := 2, code := none }
def k2c1 : Code := { maxStack := 2, maxLocals := 2, code := jdk_29_method_65_code, exceptionTable := #[], attributes := #[] }
def k2m1 : Method := { name := "max", desc := "(II)I", sig := { parameters := [.int, .int], returnType := some .int }, accessFlags := 9, code := some k2c1 }
def k2c2 : Code := { maxStack := 2, maxLocals := 2, code := jdk_29_method_69_code, exceptionTable := #[], attributes := #[] }
def k2m2 : Method := { name := "min", desc := "(II)I", sig := { parameters := [.int, .int], returnType := some .int }, accessFlags := 9, code := some k2c2 }
/-- java/lang/Math -/
def k2 : Class := { plain "java/lang/Math" (some 0) with
  accessFlags := 49
  interfaces := #[]
  cf := some (fileOf pool2 1 #[.nestMembers #[98]] #[{ accessFlags := 2, nameIndex := 7, descriptorIndex := 8, attributes := #[] }, { accessFlags := 9, nameIndex := 198, descriptorIndex := 335, attributes := #[] }, { accessFlags := 9, nameIndex := 201, descriptorIndex := 335, attributes := #[] }] 49 4 #[] #[{ accessFlags := 25, nameIndex := 354, descriptorIndex := 339, attributes := #[] }, { accessFlags := 25, nameIndex := 358, descriptorIndex := 339, attributes := #[] }, { accessFlags := 25, nameIndex := 361, descriptorIndex := 339, attributes := #[] }, { accessFlags := 26, nameIndex := 364, descriptorIndex := 339, attributes := #[] }, { accessFlags := 26, nameIndex := 365, descriptorIndex := 339, attributes := #[] }, { accessFlags := 26, nameIndex := 172, descriptorIndex := 173, attributes := #[] }, { accessFlags := 26, nameIndex := 176, descriptorIndex := 173, attributes := #[] }, { accessFlags := 8, nameIndex := 344, descriptorIndex := 339, attributes := #[] }, { accessFlags := 8, nameIndex := 338, descriptorIndex := 339, attributes := #[] }, { accessFlags := 4120, nameIndex := 245, descriptorIndex := 246, attributes := #[] }])
  fields := #[{ name := "E", type := .double, accessFlags := 25, slot := 0, constantValue := 0 }, { name := "PI", type := .double, accessFlags := 25, slot := 1, constantValue := 0 }, { name := "TAU", type := .double, accessFlags := 25, slot := 2, constantValue := 0 }, { name := "DEGREES_TO_RADIANS", type := .double, accessFlags := 26, slot := 3, constantValue := 0 }, { name := "RADIANS_TO_DEGREES", type := .double, accessFlags := 26, slot := 4, constantValue := 0 }, { name := "negativeZeroFloatBits", type := .long, accessFlags := 26, slot := 5, constantValue := 0 }, { name := "negativeZeroDoubleBits", type := .long, accessFlags := 26, slot := 6, constantValue := 0 }, { name := "twoToTheDoubleScaleUp", type := .double, accessFlags := 8, slot := 7, constantValue := 0 }, { name := "twoToTheDoubleScaleDown", type := .double, accessFlags := 8, slot := 8, constantValue := 0 }, { name := "$assertionsDisabled", type := .boolean, accessFlags := 4120, slot := 9, constantValue := 0 }]
  methods := #[k2m0, k2m1, k2m2]
  instanceTypes := #[]
  staticTypes := #[.double, .double, .double, .double, .double, .long, .long, .double, .double, .boolean]
  resolved := Array.replicate 460 none
  statics := none }

def pool3 : Array CpInfo := pool [(1, .methodref 2 3), (0, .class_ 4), (0, .nameAndType 5 6), (0, u "java/lang/Object"), (0, u "<init>"), (0, u "()V"), (0, .fieldref 8 9), (0, .class_ 10), (0, .nameAndType 11 12), (0, u "com/example/subtree/subtree/index/PlainWords"), (0, u "word"), (0, u "[B"), (0, .fieldref 8 14), (0, .nameAndType 15 16), (0, u "text"), (0, u "[C"), (0, .fieldref 8 18), (0, .nameAndType 19 20), (0, u "at"), (0, u "I"), (0, .fieldref 8 22), (0, .nameAndType 23 20), (0, u "to"), (0, .fieldref 8 25), (0, .nameAndType 26 20), (0, u "length"), (0, .fieldref 8 28), (0, .nameAndType 29 12), (0, u "ASCII_WORD_BYTES"), (24, u "([CII)V"), (39, u "()[B"), (2, u "reset"), (0, u "next"), (0, u "()Z"), (3, u "()I")] 3

def k3c0 : Code := { maxStack := 2, maxLocals := 1, code := prog_20_method_1_code, exceptionTable := #[], attributes := #[] }
def k3m0 : Method := { name := "<init>", desc := "()V", sig := { parameters := [], returnType := none }, accessFlags := 0, code := some k3c0 }
def k3c1 : Code := { maxStack := 2, maxLocals := 4, code := prog_20_method_2_code, exceptionTable := #[], attributes := #[] }
def k3m1 : Method := { name := "reset", desc := "([CII)V", sig := { parameters := [(.array .char), .int, .int], returnType := none }, accessFlags := 0, code := some k3c1 }
def k3c2 : Code := { maxStack := 6, maxLocals := 10, code := prog_20_method_3_code, exceptionTable := #[], attributes := #[] }
def k3m2 : Method := { name := "next", desc := "()Z", sig := { parameters := [], returnType := some .boolean }, accessFlags := 0, code := some k3c2 }
def k3c3 : Code := { maxStack := 1, maxLocals := 1, code := prog_20_method_4_code, exceptionTable := #[], attributes := #[] }
def k3m3 : Method := { name := "word", desc := "()[B", sig := { parameters := [], returnType := some (.array .byte) }, accessFlags := 0, code := some k3c3 }
def k3c4 : Code := { maxStack := 1, maxLocals := 1, code := prog_20_method_5_code, exceptionTable := #[], attributes := #[] }
def k3m4 : Method := { name := "length", desc := "()I", sig := { parameters := [], returnType := some .int }, accessFlags := 0, code := some k3c4 }
/-- com/example/subtree/subtree/index/PlainWords -/
def k3 : Class := { plain "com/example/subtree/subtree/index/PlainWords" (some 0) with
  accessFlags := 48
  interfaces := #[]
  cf := some (fileOf pool3 8 #[] #[{ accessFlags := 0, nameIndex := 5, descriptorIndex := 6, attributes := #[] }, { accessFlags := 0, nameIndex := 97, descriptorIndex := 54, attributes := #[] }, { accessFlags := 0, nameIndex := 98, descriptorIndex := 99, attributes := #[] }, { accessFlags := 0, nameIndex := 11, descriptorIndex := 94, attributes := #[] }, { accessFlags := 0, nameIndex := 26, descriptorIndex := 103, attributes := #[] }] 48 2 #[] #[{ accessFlags := 26, nameIndex := 29, descriptorIndex := 12, attributes := #[] }, { accessFlags := 2, nameIndex := 15, descriptorIndex := 16, attributes := #[] }, { accessFlags := 2, nameIndex := 19, descriptorIndex := 20, attributes := #[] }, { accessFlags := 2, nameIndex := 23, descriptorIndex := 20, attributes := #[] }, { accessFlags := 2, nameIndex := 11, descriptorIndex := 12, attributes := #[] }, { accessFlags := 2, nameIndex := 26, descriptorIndex := 20, attributes := #[] }])
  fields := #[{ name := "ASCII_WORD_BYTES", type := (.array .byte), accessFlags := 26, slot := 0, constantValue := 0 }, { name := "text", type := (.array .char), accessFlags := 2, slot := 0, constantValue := 0 }, { name := "at", type := .int, accessFlags := 2, slot := 1, constantValue := 0 }, { name := "to", type := .int, accessFlags := 2, slot := 2, constantValue := 0 }, { name := "word", type := (.array .byte), accessFlags := 2, slot := 3, constantValue := 0 }, { name := "length", type := .int, accessFlags := 2, slot := 4, constantValue := 0 }]
  methods := #[k3m0, k3m1, k3m2, k3m3, k3m4]
  instanceTypes := #[(.array .char), .int, .int, (.array .byte), .int]
  staticTypes := #[(.array .byte)]
  resolved := Array.replicate 107 none
  statics := some 0 }

def pool4 : Array CpInfo := pool [(1, u "java/lang/Cloneable"), (0, .class_ 1), (0, u "java/lang/Object"), (0, .class_ 3)] 3

/-- java/lang/Cloneable -/
def k4 : Class := { plain "java/lang/Cloneable" (some 0) with
  accessFlags := 1537
  interfaces := #[]
  cf := some (fileOf pool4 2 #[] #[] 1537 4 #[] #[])
  fields := #[]
  methods := #[]
  instanceTypes := #[]
  staticTypes := #[]
  resolved := Array.replicate 8 none
  statics := none }

def pool5 : Array CpInfo := pool [(1, u "java/io/Serializable"), (0, .class_ 1), (0, u "java/lang/Object"), (0, .class_ 3)] 3

/-- java/io/Serializable -/
def k5 : Class := { plain "java/io/Serializable" (some 0) with
  accessFlags := 1537
  interfaces := #[]
  cf := some (fileOf pool5 2 #[] #[] 1537 4 #[] #[])
  fields := #[]
  methods := #[]
  instanceTypes := #[]
  staticTypes := #[]
  resolved := Array.replicate 8 none
  statics := none }

/-- the primitive byte -/
def k6 : Class := { plain "byte" none with kind := .primitive 'B', accessFlags := 0x411 }
/-- [B -/
def k7 : Class := { plain "[B" (some 0) with kind := .array 6 .byte, interfaces := #[4, 5], accessFlags := 1041 }

/-- the primitive char -/
def k8 : Class := { plain "char" none with kind := .primitive 'C', accessFlags := 0x411 }
/-- [C -/
def k9 : Class := { plain "[C" (some 0) with kind := .array 8 .char, interfaces := #[4, 5], accessFlags := 1041 }

/-- the primitive int -/
def k10 : Class := { plain "int" none with kind := .primitive 'I', accessFlags := 0x411 }
/-- [I -/
def k11 : Class := { plain "[I" (some 0) with kind := .array 10 .int, interfaces := #[4, 5], accessFlags := 1041 }

def heap : Heap := #[{ cls := 3, slots := #[.ref 1], vm := .statics 3 },
  { cls := 7, slots := #[.int 0, .int 0, .int 0, .int 0, .int 0, .int 0, .int 0, .int 0, .int 0, .int 0, .int 0, .int 0, .int 0, .int 0, .int 0, .int 0, .int 0, .int 0, .int 0, .int 0, .int 0, .int 0, .int 0, .int 0, .int 0, .int 0, .int 0, .int 0, .int 0, .int 0, .int 0, .int 0, .int 0, .int 0, .int 0, .int 0, .int 0, .int 0, .int 0, .int 0, .int 0, .int 0, .int 0, .int 0, .int 0, .int 0, .int 0, .int 0, .int 48, .int 49, .int 50, .int 51, .int 52, .int 53, .int 54, .int 55, .int 56, .int 57, .int 0, .int 0, .int 0, .int 0, .int 0, .int 0, .int 0, .int 97, .int 98, .int 99, .int 100, .int 101, .int 102, .int 103, .int 104, .int 105, .int 106, .int 107, .int 108, .int 109, .int 110, .int 111, .int 112, .int 113, .int 114, .int 115, .int 116, .int 117, .int 118, .int 119, .int 120, .int 121, .int 122, .int 0, .int 0, .int 0, .int 0, .int 0, .int 0, .int 97, .int 98, .int 99, .int 100, .int 101, .int 102, .int 103, .int 104, .int 105, .int 106, .int 107, .int 108, .int 109, .int 110, .int 111, .int 112, .int 113, .int 114, .int 115, .int 116, .int 117, .int 118, .int 119, .int 120, .int 121, .int 122, .int 0, .int 0, .int 0, .int 0, .int 0], vm := .none }]
def classes : Array Class := #[k0, k1, k2, k3, k4, k5, k6, k7, k8, k9, k10, k11]
def interned : List (Array UInt16 × Addr) := []
def slotsUsed : Nat := 129
def theMethod : MethodId := ⟨1, 1⟩
def args0 : Array Value := #[.int 79, .int 199, .int 152, .int 226]
def aboutOver (below : List Frame) : State where
  vm := { classes := classes, interned := interned.toArray }
  heap := heap
  slotsUsed := slotsUsed
  threads := #[{ frames := .invoking theMethod args0 :: below }]
def below0 : List Frame := [.native { method := ⟨0, 0⟩, args := #[] }]
def about1 : State := aboutOver below0
def p0 : Program := .bare "" "" ""
def e0 : Env := launch0.env 0 0 0
theorem w_frames : about1.frames = Frame.invoking theMethod args0 :: below0 := rfl
set_option maxRecDepth 65536 in
theorem w_args : argsFit about1.vm theMethod args0 = true := by decide +kernel
set_option maxRecDepth 65536 in
theorem w_heap : heapFits about1 = true := by decide +kernel
set_option maxRecDepth 65536 in
theorem w_runnable : about1.curStatus? = some .runnable := by decide +kernel
set_option maxRecDepth 65536 in
theorem w_alone : about1.alone = true := by decide +kernel
set_option maxRecDepth 65536 in
theorem w_named : about1.methodNamed? x = some theMethod := by decide +kernel
set_option maxRecDepth 65536 in
theorem w_hears : about1.hears theMethod below0 = true := by decide +kernel
set_option maxRecDepth 65536 in
theorem w_ripe : about1.ripe theMethod args0 below0 = true := by decide +kernel
theorem w_running : about1.status = .running := rfl
set_option maxRecDepth 65536 in
theorem w_room : about1.hasRoom e0.platform room_1 = true :=
  launch0.hasRoom_least _ room_1 (by decide +kernel) (by decide +kernel) (by decide +kernel) (by decide +kernel) (by decide +kernel) (by decide +kernel)
theorem allAtoms_all (ts : List Jvm.Cond) (a : Array Jvm.Value) (st : Jvm.State) : (allAtoms ts).before a st = ts.all (fun c => c.before a st) := by
  induction ts with
  | nil => rfl
  | cons c t ih =>
    show (Jvm.Cond.and c (allAtoms t)).before a st = _
    rw [Jvm.Cond.before_and, ih, List.all_cons]
def words1 : List Jvm.Cond := Jvm.Cond.code x code maxLocals ret :: tables_1
/-- a 'code' word, met by the world's own term for the bytes: nothing is compared byte by byte -/
theorem code_word {y : MethodName} {bytes : ByteArray} {mx : Nat} {rt : Option FieldType} {a : Array Value} {s : State} {m : MethodId} {meth : Method} {c : Code} (h1 : s.methodNamed? y = some m) (h2 : s.vm.method? m = some meth) (h3 : meth.code = some c) (h4 : c.code = bytes)
    (h5 : (c.maxLocals == mx && c.exceptionTable.isEmpty && decide (c.maxStack ≤ mostOperands) && decide (meth.sig.returnType = rt) && !meth.locks && decide (parseMethodDescriptor y.desc = some meth.sig)) = true) : (Jvm.Cond.code y bytes mx rt).before a s = true := by
  simp only [Bool.and_eq_true, beq_iff_eq, Bool.not_eq_true', decide_eq_true_eq] at h5
  obtain ⟨⟨⟨⟨⟨g1, g2⟩, g3⟩, g4⟩, g5⟩, g6⟩ := h5
  simp [Cond.before, Cond.holds, Cond.value, h1, h2, h3, h4, g1, g2, g3, g4, g5, g6]
def isCode : Jvm.Cond → Bool
  | .code _ _ _ _ => true
  | _ => false
theorem all_split {L : List Jvm.Cond} {P : Jvm.Cond → Bool} (h1 : L.all (fun c => isCode c || P c) = true) (h2 : ∀ c ∈ L.filter isCode, P c = true) : L.all P = true := by
  refine List.all_eq_true.mpr fun c hc => ?_
  have h := List.all_eq_true.mp h1 c hc
  rcases Bool.eq_false_or_eq_true (isCode c) with hi | hi
  · exact h2 c (List.mem_filter.mpr ⟨hc, hi⟩)
  · simpa [hi] using h
set_option maxRecDepth 65536 in
theorem w_c0 : (Jvm.Cond.code x code maxLocals ret).before args0 about1 = true := code_word (m := ⟨1, 1⟩) (meth := k1m1) (c := k1c1) (by decide +kernel) rfl rfl rfl (by decide +kernel)
set_option maxRecDepth 65536 in
theorem w_c1 : (Jvm.Cond.code ({ cls := "java/lang/Math", name := "min", desc := "(II)I" } : Jvm.MethodName) jdk_29_method_69_code (2 : Nat) (Option.some Jvm.ClassFile.FieldType.int)).before args0 about1 = true := code_word (m := ⟨2, 2⟩) (meth := k2m2) (c := k2c2) (by decide +kernel) rfl rfl rfl (by decide +kernel)
set_option maxRecDepth 65536 in
theorem w_c2 : (Jvm.Cond.code ({ cls := "java/lang/Math", name := "max", desc := "(II)I" } : Jvm.MethodName) jdk_29_method_65_code (2 : Nat) (Option.some Jvm.ClassFile.FieldType.int)).before args0 about1 = true := code_word (m := ⟨2, 1⟩) (meth := k2m1) (c := k2c1) (by decide +kernel) rfl rfl rfl (by decide +kernel)
set_option maxRecDepth 65536 in
theorem w_c3 : (Jvm.Cond.code ({ cls := "com/example/subtree/subtree/index/PlainWords", name := "<init>", desc := "()V" } : Jvm.MethodName) prog_20_method_1_code (1 : Nat) (Option.none : Option Jvm.ClassFile.FieldType)).before args0 about1 = true := code_word (m := ⟨3, 0⟩) (meth := k3m0) (c := k3c0) (by decide +kernel) rfl rfl rfl (by decide +kernel)
set_option maxRecDepth 65536 in
theorem w_c4 : (Jvm.Cond.code ({ cls := "java/lang/Object", name := "<init>", desc := "()V" } : Jvm.MethodName) object_method_1_code (1 : Nat) (Option.none : Option Jvm.ClassFile.FieldType)).before args0 about1 = true := code_word (m := ⟨0, 0⟩) (meth := k0m0) (c := k0c0) (by decide +kernel) rfl rfl rfl (by decide +kernel)
set_option maxRecDepth 65536 in
theorem w_c5 : (Jvm.Cond.code ({ cls := "com/example/subtree/subtree/index/PlainWords", name := "reset", desc := "([CII)V" } : Jvm.MethodName) prog_20_method_2_code (4 : Nat) (Option.none : Option Jvm.ClassFile.FieldType)).before args0 about1 = true := code_word (m := ⟨3, 1⟩) (meth := k3m1) (c := k3c1) (by decide +kernel) rfl rfl rfl (by decide +kernel)
set_option maxRecDepth 65536 in
theorem w_c6 : (Jvm.Cond.code ({ cls := "com/example/subtree/subtree/index/PlainWords", name := "next", desc := "()Z" } : Jvm.MethodName) prog_20_method_3_code (10 : Nat) (Option.some Jvm.ClassFile.FieldType.boolean)).before args0 about1 = true := code_word (m := ⟨3, 2⟩) (meth := k3m2) (c := k3c2) (by decide +kernel) rfl rfl rfl (by decide +kernel)
set_option maxRecDepth 65536 in
theorem w_c7 : (Jvm.Cond.code ({ cls := "com/example/subtree/subtree/index/PlainWords", name := "length", desc := "()I" } : Jvm.MethodName) prog_20_method_5_code (1 : Nat) (Option.some Jvm.ClassFile.FieldType.int)).before args0 about1 = true := code_word (m := ⟨3, 4⟩) (meth := k3m4) (c := k3c4) (by decide +kernel) rfl rfl rfl (by decide +kernel)
set_option maxRecDepth 65536 in
theorem w_c8 : (Jvm.Cond.code ({ cls := "com/example/subtree/subtree/index/PlainWordsResetPinLaw", name := "isWord", desc := "(C)Z" } : Jvm.MethodName) method_3_code (1 : Nat) (Option.some Jvm.ClassFile.FieldType.boolean)).before args0 about1 = true := code_word (m := ⟨1, 2⟩) (meth := k1m2) (c := k1c2) (by decide +kernel) rfl rfl rfl (by decide +kernel)
set_option maxRecDepth 65536 in
theorem w_c9 : (Jvm.Cond.code ({ cls := "com/example/subtree/subtree/index/PlainWords", name := "word", desc := "()[B" } : Jvm.MethodName) prog_20_method_4_code (1 : Nat) (Option.some (Jvm.ClassFile.FieldType.array Jvm.ClassFile.FieldType.byte))).before args0 about1 = true := code_word (m := ⟨3, 3⟩) (meth := k3m3) (c := k3c3) (by decide +kernel) rfl rfl rfl (by decide +kernel)
set_option maxRecDepth 65536 in
theorem w_c10 : (Jvm.Cond.code ({ cls := "com/example/subtree/subtree/index/PlainWordsResetPinLaw", name := "same", desc := "([B[CIII)Z" } : Jvm.MethodName) method_5_code (5 : Nat) (Option.some Jvm.ClassFile.FieldType.boolean)).before args0 about1 = true := code_word (m := ⟨1, 4⟩) (meth := k1m4) (c := k1c4) (by decide +kernel) rfl rfl rfl (by decide +kernel)
set_option maxRecDepth 65536 in
theorem w_c11 : (Jvm.Cond.code ({ cls := "com/example/subtree/subtree/index/PlainWordsResetPinLaw", name := "lower", desc := "(C)I" } : Jvm.MethodName) method_4_code (1 : Nat) (Option.some Jvm.ClassFile.FieldType.int)).before args0 about1 = true := code_word (m := ⟨1, 3⟩) (meth := k1m3) (c := k1c3) (by decide +kernel) rfl rfl rfl (by decide +kernel)
def codes1 : List Jvm.Cond := [Jvm.Cond.code x code maxLocals ret, Jvm.Cond.code ({ cls := "java/lang/Math", name := "min", desc := "(II)I" } : Jvm.MethodName) jdk_29_method_69_code (2 : Nat) (Option.some Jvm.ClassFile.FieldType.int), Jvm.Cond.code ({ cls := "java/lang/Math", name := "max", desc := "(II)I" } : Jvm.MethodName) jdk_29_method_65_code (2 : Nat) (Option.some Jvm.ClassFile.FieldType.int), Jvm.Cond.code ({ cls := "com/example/subtree/subtree/index/PlainWords", name := "<init>", desc := "()V" } : Jvm.MethodName) prog_20_method_1_code (1 : Nat) (Option.none : Option Jvm.ClassFile.FieldType), Jvm.Cond.code ({ cls := "java/lang/Object", name := "<init>", desc := "()V" } : Jvm.MethodName) object_method_1_code (1 : Nat) (Option.none : Option Jvm.ClassFile.FieldType), Jvm.Cond.code ({ cls := "com/example/subtree/subtree/index/PlainWords", name := "reset", desc := "([CII)V" } : Jvm.MethodName) prog_20_method_2_code (4 : Nat) (Option.none : Option Jvm.ClassFile.FieldType), Jvm.Cond.code ({ cls := "com/example/subtree/subtree/index/PlainWords", name := "next", desc := "()Z" } : Jvm.MethodName) prog_20_method_3_code (10 : Nat) (Option.some Jvm.ClassFile.FieldType.boolean), Jvm.Cond.code ({ cls := "com/example/subtree/subtree/index/PlainWords", name := "length", desc := "()I" } : Jvm.MethodName) prog_20_method_5_code (1 : Nat) (Option.some Jvm.ClassFile.FieldType.int), Jvm.Cond.code ({ cls := "com/example/subtree/subtree/index/PlainWordsResetPinLaw", name := "isWord", desc := "(C)Z" } : Jvm.MethodName) method_3_code (1 : Nat) (Option.some Jvm.ClassFile.FieldType.boolean), Jvm.Cond.code ({ cls := "com/example/subtree/subtree/index/PlainWords", name := "word", desc := "()[B" } : Jvm.MethodName) prog_20_method_4_code (1 : Nat) (Option.some (Jvm.ClassFile.FieldType.array Jvm.ClassFile.FieldType.byte)), Jvm.Cond.code ({ cls := "com/example/subtree/subtree/index/PlainWordsResetPinLaw", name := "same", desc := "([B[CIII)Z" } : Jvm.MethodName) method_5_code (5 : Nat) (Option.some Jvm.ClassFile.FieldType.boolean), Jvm.Cond.code ({ cls := "com/example/subtree/subtree/index/PlainWordsResetPinLaw", name := "lower", desc := "(C)I" } : Jvm.MethodName) method_4_code (1 : Nat) (Option.some Jvm.ClassFile.FieldType.int)]
set_option maxRecDepth 65536 in
theorem codes_eq : words1.filter isCode = codes1 := rfl
theorem w_codes : ∀ c ∈ words1.filter isCode, c.before args0 about1 = true := by
  rw [codes_eq]
  intro c hc
  simp only [codes1, List.mem_cons, List.not_mem_nil, or_false] at hc
  rcases hc with rfl | rfl | rfl | rfl | rfl | rfl | rfl | rfl | rfl | rfl | rfl | rfl
  · exact w_c0
  · exact w_c1
  · exact w_c2
  · exact w_c3
  · exact w_c4
  · exact w_c5
  · exact w_c6
  · exact w_c7
  · exact w_c8
  · exact w_c9
  · exact w_c10
  · exact w_c11
set_option maxRecDepth 65536 in
theorem w_t1 : (words1.take 24).all (fun c => isCode c || c.before args0 about1) = true := by decide +kernel
set_option maxRecDepth 65536 in
theorem w_t2 : ((words1.drop 24).take 24).all (fun c => isCode c || c.before args0 about1) = true := by decide +kernel
set_option maxRecDepth 65536 in
theorem w_t3 : ((words1.drop 24).drop 24).all (fun c => isCode c || c.before args0 about1) = true := by decide +kernel
theorem w_tables : (allAtoms (Jvm.Cond.code x code maxLocals ret :: tables_1)).before args0 about1 = true := by
  rw [allAtoms_all]
  show words1.all (fun c => c.before args0 about1) = true
  refine all_split ?_ w_codes
  rw [← List.take_append_drop 24 words1, List.all_append, w_t1, ← List.take_append_drop 24 (words1.drop 24), List.all_append, w_t2, w_t3]
  rfl
set_option maxRecDepth 65536 in
theorem w_case : (Jvm.Cond.and given_1 narrow_1).before args0 about1 = true := by decide +kernel
theorem w_applies : (headSpec (Jvm.Cond.code x code maxLocals ret :: tables_1) room_1).applies x e0.platform about1 = true :=
  (Spec.applies_iff w_frames).mpr ⟨w_running, w_runnable, w_alone, w_named, w_hears, w_ripe, w_room, w_tables⟩
theorem atStart : AtStart classFile x code maxLocals ret World_1 tables_1 room_1 Calls_1 rest_1 Pre_1 launch0 p0 e0 about1 theMethod args0 below0 :=
  ⟨lists_1, trivial, launch0.admits_env _ _ _, launch0.least_env, fairChoices_fair.cas, fairChoices_fair.clock, w_frames, w_args, w_heap, w_applies, trivial, trivial, w_case⟩
end start1
theorem witness_1 : WitnessClaimed_1 := ⟨start1.p0, start1.e0, start1.about1, start1.theMethod, start1.args0, start1.below0, start1.atStart⟩
end Jvm.Pilot.@@N@@
