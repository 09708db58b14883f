import JvmDerived
import JvmDerived.Pilot.@@N@@Statement
import JvmDerived.Pilot.@@N@@Code
set_option linter.unusedVariables false
set_option linter.unusedSimpArgs false
namespace Jvm.Pilot.@@N@@
open Jvm Jvm.ClassFile Sem Op Lib Jvm.Free Jvm.Stand Jvm.LawKit Jvm.RoadKit Bundle Jvm.Pilot.@@N@@.Jvm.D
/-- from A the run comes to B -/
def Go (p : Program) (e : Env) (below : List Frame) (A B : State) : Prop := ∀ t, Steps p.tables e below B t → Steps p.tables e below A t
def own_b (P : Prop) [Decidable P] : Int32 := if P then 1 else 0
theorem wd {a0 : Array Value} {Z : State} (hw : ∀ d ∈ tables_1, d.before a0 Z = true) (i : Nat) {d : Jvm.Cond} (h : tables_1[i]? = some d) : d.before a0 Z = true := hw d (List.mem_of_getElem? h)
abbrev Rm (a b c d : Nat) : Room := { frames := a, cells := b, slots := c, locals := d }
theorem own_b1 {P : Prop} [Decidable P] (h : P) : ¬ own_b P = (0 : Int32) := by simp [own_b, h]
theorem own_b0 {P : Prop} [Decidable P] (h : ¬ P) : own_b P = (0 : Int32) := by simp [own_b, h]
theorem own_bt {P : Prop} [Decidable P] (h : P) : own_b P = (1 : Int32) := by simp [own_b, h]
theorem own_nb {P : Prop} [Decidable P] : nar .boolean (own_b P) = own_b P := by by_cases h : P <;> simp [own_b, h] <;> decide
theorem own_beq {P R : Prop} [Decidable P] [Decidable R] (h : P ↔ R) : own_b P = own_b R := by by_cases q : P <;> simp [own_b, q, ← h]
theorem d1_0 : decode method_5_code 0 = .ok (.bipush 9, 2) := by decide +kernel
theorem d1_2 : decode method_5_code 2 = .ok (.newarray .char, 2) := by decide +kernel
theorem d1_4 : decode method_5_code 4 = .ok (.astore_n 3, 1) := by decide +kernel
theorem d1_5 : decode method_5_code 5 = .ok (.aload_n 3, 1) := by decide +kernel
theorem d1_6 : decode method_5_code 6 = .ok (.iconst 0, 1) := by decide +kernel
theorem d1_7 : decode method_5_code 7 = .ok (.aload_n 0, 1) := by decide +kernel
theorem d1_8 : decode method_5_code 8 = .ok (.iconst 0, 1) := by decide +kernel
theorem d1_9 : decode method_5_code 9 = .ok (.iload_n 1, 1) := by decide +kernel
theorem d1_10 : decode method_5_code 10 = .ok (.iload_n 2, 1) := by decide +kernel
theorem d1_11 : decode method_5_code 11 = .ok (.invokestatic 62, 3) := by decide +kernel
theorem d1_14 : decode method_5_code 14 = .ok (.castore, 1) := by decide +kernel
theorem d1_15 : decode method_5_code 15 = .ok (.aload_n 3, 1) := by decide +kernel
theorem d1_16 : decode method_5_code 16 = .ok (.iconst 1, 1) := by decide +kernel
theorem d1_17 : decode method_5_code 17 = .ok (.aload_n 0, 1) := by decide +kernel
theorem d1_18 : decode method_5_code 18 = .ok (.iconst 1, 1) := by decide +kernel
theorem d1_19 : decode method_5_code 19 = .ok (.iload_n 1, 1) := by decide +kernel
theorem d1_20 : decode method_5_code 20 = .ok (.iload_n 2, 1) := by decide +kernel
theorem d1_21 : decode method_5_code 21 = .ok (.invokestatic 62, 3) := by decide +kernel
theorem d1_24 : decode method_5_code 24 = .ok (.castore, 1) := by decide +kernel
theorem d1_25 : decode method_5_code 25 = .ok (.aload_n 3, 1) := by decide +kernel
theorem d1_26 : decode method_5_code 26 = .ok (.iconst 2, 1) := by decide +kernel
theorem d1_27 : decode method_5_code 27 = .ok (.aload_n 0, 1) := by decide +kernel
theorem d1_28 : decode method_5_code 28 = .ok (.iconst 2, 1) := by decide +kernel
theorem d1_29 : decode method_5_code 29 = .ok (.iload_n 1, 1) := by decide +kernel
theorem d1_30 : decode method_5_code 30 = .ok (.iload_n 2, 1) := by decide +kernel
theorem d1_31 : decode method_5_code 31 = .ok (.invokestatic 62, 3) := by decide +kernel
theorem d1_34 : decode method_5_code 34 = .ok (.castore, 1) := by decide +kernel
theorem d1_35 : decode method_5_code 35 = .ok (.aload_n 3, 1) := by decide +kernel
theorem d1_36 : decode method_5_code 36 = .ok (.iconst 3, 1) := by decide +kernel
theorem d1_37 : decode method_5_code 37 = .ok (.aload_n 0, 1) := by decide +kernel
theorem d1_38 : decode method_5_code 38 = .ok (.iconst 3, 1) := by decide +kernel
theorem d1_39 : decode method_5_code 39 = .ok (.iload_n 1, 1) := by decide +kernel
theorem d1_40 : decode method_5_code 40 = .ok (.iload_n 2, 1) := by decide +kernel
theorem d1_41 : decode method_5_code 41 = .ok (.invokestatic 62, 3) := by decide +kernel
theorem d1_44 : decode method_5_code 44 = .ok (.castore, 1) := by decide +kernel
theorem d1_45 : decode method_5_code 45 = .ok (.aload_n 3, 1) := by decide +kernel
theorem d1_46 : decode method_5_code 46 = .ok (.iconst 4, 1) := by decide +kernel
theorem d1_47 : decode method_5_code 47 = .ok (.aload_n 0, 1) := by decide +kernel
theorem d1_48 : decode method_5_code 48 = .ok (.iconst 4, 1) := by decide +kernel
theorem d1_49 : decode method_5_code 49 = .ok (.iload_n 1, 1) := by decide +kernel
theorem d1_50 : decode method_5_code 50 = .ok (.iload_n 2, 1) := by decide +kernel
theorem d1_51 : decode method_5_code 51 = .ok (.invokestatic 62, 3) := by decide +kernel
theorem d1_54 : decode method_5_code 54 = .ok (.castore, 1) := by decide +kernel
theorem d1_55 : decode method_5_code 55 = .ok (.aload_n 3, 1) := by decide +kernel
theorem d1_56 : decode method_5_code 56 = .ok (.iconst 5, 1) := by decide +kernel
theorem d1_57 : decode method_5_code 57 = .ok (.aload_n 0, 1) := by decide +kernel
theorem d1_58 : decode method_5_code 58 = .ok (.iconst 5, 1) := by decide +kernel
theorem d1_59 : decode method_5_code 59 = .ok (.iload_n 1, 1) := by decide +kernel
theorem d1_60 : decode method_5_code 60 = .ok (.iload_n 2, 1) := by decide +kernel
theorem d1_61 : decode method_5_code 61 = .ok (.invokestatic 62, 3) := by decide +kernel
theorem d1_64 : decode method_5_code 64 = .ok (.castore, 1) := by decide +kernel
theorem d1_65 : decode method_5_code 65 = .ok (.aload_n 3, 1) := by decide +kernel
theorem d1_66 : decode method_5_code 66 = .ok (.bipush 6, 2) := by decide +kernel
theorem d1_68 : decode method_5_code 68 = .ok (.aload_n 0, 1) := by decide +kernel
theorem d1_69 : decode method_5_code 69 = .ok (.bipush 6, 2) := by decide +kernel
theorem d1_71 : decode method_5_code 71 = .ok (.iload_n 1, 1) := by decide +kernel
theorem d1_72 : decode method_5_code 72 = .ok (.iload_n 2, 1) := by decide +kernel
theorem d1_73 : decode method_5_code 73 = .ok (.invokestatic 62, 3) := by decide +kernel
theorem d1_76 : decode method_5_code 76 = .ok (.castore, 1) := by decide +kernel
theorem d1_77 : decode method_5_code 77 = .ok (.aload_n 3, 1) := by decide +kernel
theorem d1_78 : decode method_5_code 78 = .ok (.bipush 7, 2) := by decide +kernel
theorem d1_80 : decode method_5_code 80 = .ok (.aload_n 0, 1) := by decide +kernel
theorem d1_81 : decode method_5_code 81 = .ok (.bipush 7, 2) := by decide +kernel
theorem d1_83 : decode method_5_code 83 = .ok (.iload_n 1, 1) := by decide +kernel
theorem d1_84 : decode method_5_code 84 = .ok (.iload_n 2, 1) := by decide +kernel
theorem d1_85 : decode method_5_code 85 = .ok (.invokestatic 62, 3) := by decide +kernel
theorem d1_88 : decode method_5_code 88 = .ok (.castore, 1) := by decide +kernel
theorem d1_89 : decode method_5_code 89 = .ok (.aload_n 3, 1) := by decide +kernel
theorem d1_90 : decode method_5_code 90 = .ok (.bipush 8, 2) := by decide +kernel
theorem d1_92 : decode method_5_code 92 = .ok (.aload_n 0, 1) := by decide +kernel
theorem d1_93 : decode method_5_code 93 = .ok (.bipush 8, 2) := by decide +kernel
theorem d1_95 : decode method_5_code 95 = .ok (.iload_n 1, 1) := by decide +kernel
theorem d1_96 : decode method_5_code 96 = .ok (.iload_n 2, 1) := by decide +kernel
theorem d1_97 : decode method_5_code 97 = .ok (.invokestatic 62, 3) := by decide +kernel
theorem d1_100 : decode method_5_code 100 = .ok (.castore, 1) := by decide +kernel
theorem d1_101 : decode method_5_code 101 = .ok (.new 17, 3) := by decide +kernel
theorem d1_104 : decode method_5_code 104 = .ok (.dup, 1) := by decide +kernel
theorem d1_105 : decode method_5_code 105 = .ok (.aload_n 3, 1) := by decide +kernel
theorem d1_106 : decode method_5_code 106 = .ok (.invokespecial 51, 3) := by decide +kernel
theorem d1_109 : decode method_5_code 109 = .ok (.areturn, 1) := by decide +kernel
theorem d2_0 : decode method_3_code 0 = .ok (.iload_n 1, 1) := by decide +kernel
theorem d2_1 : decode method_3_code 1 = .ok (.iload_n 2, 1) := by decide +kernel
theorem d2_2 : decode method_3_code 2 = .ok (.if_icmp .ne 5, 3) := by decide +kernel
theorem d2_5 : decode method_3_code 5 = .ok (.iload_n 3, 1) := by decide +kernel
theorem d2_6 : decode method_3_code 6 = .ok (.ireturn, 1) := by decide +kernel
theorem d2_7 : decode method_3_code 7 = .ok (.iload_n 1, 1) := by decide +kernel
theorem d2_8 : decode method_3_code 8 = .ok (.aload_n 0, 1) := by decide +kernel
theorem d2_9 : decode method_3_code 9 = .ok (.invokevirtual 58, 3) := by decide +kernel
theorem d2_12 : decode method_3_code 12 = .ok (.if_icmp .ge 9, 3) := by decide +kernel
theorem d2_15 : decode method_3_code 15 = .ok (.aload_n 0, 1) := by decide +kernel
theorem d2_16 : decode method_3_code 16 = .ok (.iload_n 1, 1) := by decide +kernel
theorem d2_17 : decode method_3_code 17 = .ok (.invokevirtual 16, 3) := by decide +kernel
theorem d2_20 : decode method_3_code 20 = .ok (.ireturn, 1) := by decide +kernel
theorem d2_21 : decode method_3_code 21 = .ok (.iload_n 3, 1) := by decide +kernel
theorem d2_22 : decode method_3_code 22 = .ok (.ireturn, 1) := by decide +kernel
theorem d3_0 : decode jdk_42_method_54_code 0 = .ok (.aload_n 0, 1) := by decide +kernel
theorem d3_1 : decode jdk_42_method_54_code 1 = .ok (.getfield 9, 3) := by decide +kernel
theorem d3_4 : decode jdk_42_method_54_code 4 = .ok (.arraylength, 1) := by decide +kernel
theorem d3_5 : decode jdk_42_method_54_code 5 = .ok (.aload_n 0, 1) := by decide +kernel
theorem d3_6 : decode jdk_42_method_54_code 6 = .ok (.invokevirtual 335, 3) := by decide +kernel
theorem d3_9 : decode jdk_42_method_54_code 9 = .ok (.ishr, 1) := by decide +kernel
theorem d3_10 : decode jdk_42_method_54_code 10 = .ok (.ireturn, 1) := by decide +kernel
theorem d4_0 : decode jdk_42_method_152_code 0 = .ok (.getstatic 38, 3) := by decide +kernel
theorem d4_3 : decode jdk_42_method_152_code 3 = .ok (.ifCond .eq 10, 3) := by decide +kernel
theorem d4_6 : decode jdk_42_method_152_code 6 = .ok (.aload_n 0, 1) := by decide +kernel
theorem d4_7 : decode jdk_42_method_152_code 7 = .ok (.getfield 15, 3) := by decide +kernel
theorem d4_10 : decode jdk_42_method_152_code 10 = .ok (.goto 4, 3) := by decide +kernel
theorem d4_14 : decode jdk_42_method_152_code 14 = .ok (.ireturn, 1) := by decide +kernel
theorem d5_0 : decode jdk_42_method_56_code 0 = .ok (.aload_n 0, 1) := by decide +kernel
theorem d5_1 : decode jdk_42_method_56_code 1 = .ok (.invokevirtual 492, 3) := by decide +kernel
theorem d5_4 : decode jdk_42_method_56_code 4 = .ok (.ifCond .eq 12, 3) := by decide +kernel
theorem d5_7 : decode jdk_42_method_56_code 7 = .ok (.aload_n 0, 1) := by decide +kernel
theorem d5_8 : decode jdk_42_method_56_code 8 = .ok (.getfield 9, 3) := by decide +kernel
theorem d5_11 : decode jdk_42_method_56_code 11 = .ok (.iload_n 1, 1) := by decide +kernel
theorem d5_12 : decode jdk_42_method_56_code 12 = .ok (.invokestatic 495, 3) := by decide +kernel
theorem d5_15 : decode jdk_42_method_56_code 15 = .ok (.ireturn, 1) := by decide +kernel
theorem d6_0 : decode jdk_42_method_154_code 0 = .ok (.getstatic 38, 3) := by decide +kernel
theorem d6_3 : decode jdk_42_method_154_code 3 = .ok (.ifCond .eq 14, 3) := by decide +kernel
theorem d6_6 : decode jdk_42_method_154_code 6 = .ok (.aload_n 0, 1) := by decide +kernel
theorem d6_7 : decode jdk_42_method_154_code 7 = .ok (.getfield 15, 3) := by decide +kernel
theorem d6_10 : decode jdk_42_method_154_code 10 = .ok (.ifCond .ne 7, 3) := by decide +kernel
theorem d6_13 : decode jdk_42_method_154_code 13 = .ok (.iconst 1, 1) := by decide +kernel
theorem d6_14 : decode jdk_42_method_154_code 14 = .ok (.goto 4, 3) := by decide +kernel
theorem d6_18 : decode jdk_42_method_154_code 18 = .ok (.ireturn, 1) := by decide +kernel
theorem d7_0 : decode jdk_43_method_2_code 0 = .ok (.iload_n 1, 1) := by decide +kernel
theorem d7_1 : decode jdk_43_method_2_code 1 = .ok (.aload_n 0, 1) := by decide +kernel
theorem d7_2 : decode jdk_43_method_2_code 2 = .ok (.arraylength, 1) := by decide +kernel
theorem d7_3 : decode jdk_43_method_2_code 3 = .ok (.invokestatic 9, 3) := by decide +kernel
theorem d7_6 : decode jdk_43_method_2_code 6 = .ok (.aload_n 0, 1) := by decide +kernel
theorem d7_7 : decode jdk_43_method_2_code 7 = .ok (.iload_n 1, 1) := by decide +kernel
theorem d7_8 : decode jdk_43_method_2_code 8 = .ok (.baload, 1) := by decide +kernel
theorem d7_9 : decode jdk_43_method_2_code 9 = .ok (.sipush 255, 3) := by decide +kernel
theorem d7_12 : decode jdk_43_method_2_code 12 = .ok (.iand, 1) := by decide +kernel
theorem d7_13 : decode jdk_43_method_2_code 13 = .ok (.i2c, 1) := by decide +kernel
theorem d7_14 : decode jdk_43_method_2_code 14 = .ok (.ireturn, 1) := by decide +kernel
theorem d8_0 : decode jdk_42_method_155_code 0 = .ok (.iload_n 0, 1) := by decide +kernel
theorem d8_1 : decode jdk_42_method_155_code 1 = .ok (.iload_n 1, 1) := by decide +kernel
theorem d8_2 : decode jdk_42_method_155_code 2 = .ok (.getstatic 1053, 3) := by decide +kernel
theorem d8_5 : decode jdk_42_method_155_code 5 = .ok (.invokestatic 1059, 3) := by decide +kernel
theorem d8_8 : decode jdk_42_method_155_code 8 = .ok (.pop, 1) := by decide +kernel
theorem d8_9 : decode jdk_42_method_155_code 9 = .ok (.return_, 1) := by decide +kernel
theorem d9_0 : decode jdk_41_method_11_code 0 = .ok (.iload_n 0, 1) := by decide +kernel
theorem d9_1 : decode jdk_41_method_11_code 1 = .ok (.ifCond .lt 8, 3) := by decide +kernel
theorem d9_4 : decode jdk_41_method_11_code 4 = .ok (.iload_n 0, 1) := by decide +kernel
theorem d9_5 : decode jdk_41_method_11_code 5 = .ok (.iload_n 1, 1) := by decide +kernel
theorem d9_6 : decode jdk_41_method_11_code 6 = .ok (.if_icmp .lt 10, 3) := by decide +kernel
theorem d9_16 : decode jdk_41_method_11_code 16 = .ok (.iload_n 0, 1) := by decide +kernel
theorem d9_17 : decode jdk_41_method_11_code 17 = .ok (.ireturn, 1) := by decide +kernel
theorem d10_0 : decode jdk_42_method_3_code 0 = .ok (.aload_n 0, 1) := by decide +kernel
theorem d10_1 : decode jdk_42_method_3_code 1 = .ok (.aload_n 1, 1) := by decide +kernel
theorem d10_2 : decode jdk_42_method_3_code 2 = .ok (.iconst 0, 1) := by decide +kernel
theorem d10_3 : decode jdk_42_method_3_code 3 = .ok (.aload_n 1, 1) := by decide +kernel
theorem d10_4 : decode jdk_42_method_3_code 4 = .ok (.arraylength, 1) := by decide +kernel
theorem d10_5 : decode jdk_42_method_3_code 5 = .ok (.aconst_null, 1) := by decide +kernel
theorem d10_6 : decode jdk_42_method_3_code 6 = .ok (.invokespecial 27, 3) := by decide +kernel
theorem d10_9 : decode jdk_42_method_3_code 9 = .ok (.return_, 1) := by decide +kernel
theorem d11_0 : decode jdk_42_method_149_code 0 = .ok (.aload_n 0, 1) := by decide +kernel
theorem d11_1 : decode jdk_42_method_149_code 1 = .ok (.invokespecial 1, 3) := by decide +kernel
theorem d11_4 : decode jdk_42_method_149_code 4 = .ok (.iload_n 3, 1) := by decide +kernel
theorem d11_5 : decode jdk_42_method_149_code 5 = .ok (.ifCond .ne 22, 3) := by decide +kernel
theorem d11_8 : decode jdk_42_method_149_code 8 = .ok (.aload_n 0, 1) := by decide +kernel
theorem d11_9 : decode jdk_42_method_149_code 9 = .ok (.ldc 7, 2) := by decide +kernel
theorem d11_11 : decode jdk_42_method_149_code 11 = .ok (.getfield 9, 3) := by decide +kernel
theorem d11_14 : decode jdk_42_method_149_code 14 = .ok (.putfield 9, 3) := by decide +kernel
theorem d11_17 : decode jdk_42_method_149_code 17 = .ok (.aload_n 0, 1) := by decide +kernel
theorem d11_18 : decode jdk_42_method_149_code 18 = .ok (.ldc 7, 2) := by decide +kernel
theorem d11_20 : decode jdk_42_method_149_code 20 = .ok (.getfield 15, 3) := by decide +kernel
theorem d11_23 : decode jdk_42_method_149_code 23 = .ok (.putfield 15, 3) := by decide +kernel
theorem d11_26 : decode jdk_42_method_149_code 26 = .ok (.return_, 1) := by decide +kernel
theorem d11_27 : decode jdk_42_method_149_code 27 = .ok (.getstatic 38, 3) := by decide +kernel
theorem d11_30 : decode jdk_42_method_149_code 30 = .ok (.ifCond .eq 28, 3) := by decide +kernel
theorem d11_33 : decode jdk_42_method_149_code 33 = .ok (.aload_n 1, 1) := by decide +kernel
theorem d11_34 : decode jdk_42_method_149_code 34 = .ok (.iload_n 2, 1) := by decide +kernel
theorem d11_35 : decode jdk_42_method_149_code 35 = .ok (.iload_n 3, 1) := by decide +kernel
theorem d11_36 : decode jdk_42_method_149_code 36 = .ok (.invokestatic 177, 3) := by decide +kernel
theorem d11_39 : decode jdk_42_method_149_code 39 = .ok (.astore 5, 2) := by decide +kernel
theorem d11_41 : decode jdk_42_method_149_code 41 = .ok (.aload_n 0, 1) := by decide +kernel
theorem d11_42 : decode jdk_42_method_149_code 42 = .ok (.aload 5, 2) := by decide +kernel
theorem d11_44 : decode jdk_42_method_149_code 44 = .ok (.iload_n 3, 1) := by decide +kernel
theorem d11_45 : decode jdk_42_method_149_code 45 = .ok (.invokestatic 47, 3) := by decide +kernel
theorem d11_48 : decode jdk_42_method_149_code 48 = .ok (.putfield 15, 3) := by decide +kernel
theorem d11_51 : decode jdk_42_method_149_code 51 = .ok (.aload_n 0, 1) := by decide +kernel
theorem d11_52 : decode jdk_42_method_149_code 52 = .ok (.aload 5, 2) := by decide +kernel
theorem d11_54 : decode jdk_42_method_149_code 54 = .ok (.putfield 9, 3) := by decide +kernel
theorem d11_57 : decode jdk_42_method_149_code 57 = .ok (.return_, 1) := by decide +kernel
theorem d13_0 : decode jdk_52_method_16_code 0 = .ok (.iload_n 2, 1) := by decide +kernel
theorem d13_1 : decode jdk_52_method_16_code 1 = .ok (.newarray .byte, 2) := by decide +kernel
theorem d13_3 : decode jdk_52_method_16_code 3 = .ok (.astore_n 3, 1) := by decide +kernel
theorem d13_4 : decode jdk_52_method_16_code 4 = .ok (.aload_n 0, 1) := by decide +kernel
theorem d13_5 : decode jdk_52_method_16_code 5 = .ok (.iload_n 1, 1) := by decide +kernel
theorem d13_6 : decode jdk_52_method_16_code 6 = .ok (.aload_n 3, 1) := by decide +kernel
theorem d13_7 : decode jdk_52_method_16_code 7 = .ok (.iconst 0, 1) := by decide +kernel
theorem d13_8 : decode jdk_52_method_16_code 8 = .ok (.iload_n 2, 1) := by decide +kernel
theorem d13_9 : decode jdk_52_method_16_code 9 = .ok (.invokestatic 115, 3) := by decide +kernel
theorem d13_12 : decode jdk_52_method_16_code 12 = .ok (.istore 4, 2) := by decide +kernel
theorem d13_14 : decode jdk_52_method_16_code 14 = .ok (.iload 4, 2) := by decide +kernel
theorem d13_16 : decode jdk_52_method_16_code 16 = .ok (.iload_n 2, 1) := by decide +kernel
theorem d13_17 : decode jdk_52_method_16_code 17 = .ok (.if_icmp .eq 40, 3) := by decide +kernel
theorem d13_57 : decode jdk_52_method_16_code 57 = .ok (.aload_n 3, 1) := by decide +kernel
theorem d13_58 : decode jdk_52_method_16_code 58 = .ok (.areturn, 1) := by decide +kernel
theorem d14_0 : decode jdk_52_method_21_code 0 = .ok (.iconst 0, 1) := by decide +kernel
theorem d14_1 : decode jdk_52_method_21_code 1 = .ok (.istore 5, 2) := by decide +kernel
theorem d14_3 : decode jdk_52_method_21_code 3 = .ok (.iload 5, 2) := by decide +kernel
theorem d14_5 : decode jdk_52_method_21_code 5 = .ok (.iload 4, 2) := by decide +kernel
theorem d14_7 : decode jdk_52_method_21_code 7 = .ok (.if_icmp .ge 37, 3) := by decide +kernel
theorem d14_10 : decode jdk_52_method_21_code 10 = .ok (.aload_n 0, 1) := by decide +kernel
theorem d14_11 : decode jdk_52_method_21_code 11 = .ok (.iload_n 1, 1) := by decide +kernel
theorem d14_12 : decode jdk_52_method_21_code 12 = .ok (.caload, 1) := by decide +kernel
theorem d14_13 : decode jdk_52_method_21_code 13 = .ok (.istore 6, 2) := by decide +kernel
theorem d14_15 : decode jdk_52_method_21_code 15 = .ok (.iload 6, 2) := by decide +kernel
theorem d14_17 : decode jdk_52_method_21_code 17 = .ok (.sipush 255, 3) := by decide +kernel
theorem d14_20 : decode jdk_52_method_21_code 20 = .ok (.if_icmp .le 6, 3) := by decide +kernel
theorem d14_26 : decode jdk_52_method_21_code 26 = .ok (.aload_n 2, 1) := by decide +kernel
theorem d14_27 : decode jdk_52_method_21_code 27 = .ok (.iload_n 3, 1) := by decide +kernel
theorem d14_28 : decode jdk_52_method_21_code 28 = .ok (.iload 6, 2) := by decide +kernel
theorem d14_30 : decode jdk_52_method_21_code 30 = .ok (.i2b, 1) := by decide +kernel
theorem d14_31 : decode jdk_52_method_21_code 31 = .ok (.bastore, 1) := by decide +kernel
theorem d14_32 : decode jdk_52_method_21_code 32 = .ok (.iinc 1 1, 3) := by decide +kernel
theorem d14_35 : decode jdk_52_method_21_code 35 = .ok (.iinc 3 1, 3) := by decide +kernel
theorem d14_38 : decode jdk_52_method_21_code 38 = .ok (.iinc 5 1, 3) := by decide +kernel
theorem d14_41 : decode jdk_52_method_21_code 41 = .ok (.goto (-38), 3) := by decide +kernel
theorem d14_44 : decode jdk_52_method_21_code 44 = .ok (.iload 4, 2) := by decide +kernel
theorem d14_46 : decode jdk_52_method_21_code 46 = .ok (.ireturn, 1) := by decide +kernel
theorem d15_0 : decode jdk_52_method_15_code 0 = .ok (.iload_n 1, 1) := by decide +kernel
theorem d15_1 : decode jdk_52_method_15_code 1 = .ok (.aload_n 0, 1) := by decide +kernel
theorem d15_2 : decode jdk_52_method_15_code 2 = .ok (.arraylength, 1) := by decide +kernel
theorem d15_3 : decode jdk_52_method_15_code 3 = .ok (.isub, 1) := by decide +kernel
theorem d15_4 : decode jdk_52_method_15_code 4 = .ok (.bipush 31, 2) := by decide +kernel
theorem d15_6 : decode jdk_52_method_15_code 6 = .ok (.iushr, 1) := by decide +kernel
theorem d15_7 : decode jdk_52_method_15_code 7 = .ok (.i2b, 1) := by decide +kernel
theorem d15_8 : decode jdk_52_method_15_code 8 = .ok (.ireturn, 1) := by decide +kernel
theorem d16_0 : decode prog_51_method_5_code 0 = .ok (.aconst_null, 1) := by decide +kernel
theorem d16_1 : decode prog_51_method_5_code 1 = .ok (.astore_n 1, 1) := by decide +kernel
theorem d16_2 : decode prog_51_method_5_code 2 = .ok (.invokestatic 33, 3) := by decide +kernel
theorem d16_5 : decode prog_51_method_5_code 5 = .ok (.astore_n 2, 1) := by decide +kernel
theorem d16_6 : decode prog_51_method_5_code 6 = .ok (.aload_n 2, 1) := by decide +kernel
theorem d16_7 : decode prog_51_method_5_code 7 = .ok (.arraylength, 1) := by decide +kernel
theorem d16_8 : decode prog_51_method_5_code 8 = .ok (.istore_n 3, 1) := by decide +kernel
theorem d16_9 : decode prog_51_method_5_code 9 = .ok (.iconst 0, 1) := by decide +kernel
theorem d16_10 : decode prog_51_method_5_code 10 = .ok (.istore 4, 2) := by decide +kernel
theorem d16_12 : decode prog_51_method_5_code 12 = .ok (.iload 4, 2) := by decide +kernel
theorem d16_14 : decode prog_51_method_5_code 14 = .ok (.iload_n 3, 1) := by decide +kernel
theorem d16_15 : decode prog_51_method_5_code 15 = .ok (.if_icmp .ge 30, 3) := by decide +kernel
theorem d16_18 : decode prog_51_method_5_code 18 = .ok (.aload_n 2, 1) := by decide +kernel
theorem d16_19 : decode prog_51_method_5_code 19 = .ok (.iload 4, 2) := by decide +kernel
theorem d16_21 : decode prog_51_method_5_code 21 = .ok (.aaload, 1) := by decide +kernel
theorem d16_22 : decode prog_51_method_5_code 22 = .ok (.astore 5, 2) := by decide +kernel
theorem d16_24 : decode prog_51_method_5_code 24 = .ok (.aload 5, 2) := by decide +kernel
theorem d16_26 : decode prog_51_method_5_code 26 = .ok (.getfield 29, 3) := by decide +kernel
theorem d16_29 : decode prog_51_method_5_code 29 = .ok (.aload_n 0, 1) := by decide +kernel
theorem d16_30 : decode prog_51_method_5_code 30 = .ok (.invokevirtual 37, 3) := by decide +kernel
theorem d16_33 : decode prog_51_method_5_code 33 = .ok (.ifCond .eq 6, 3) := by decide +kernel
theorem d16_36 : decode prog_51_method_5_code 36 = .ok (.aload 5, 2) := by decide +kernel
theorem d16_38 : decode prog_51_method_5_code 38 = .ok (.astore_n 1, 1) := by decide +kernel
theorem d16_39 : decode prog_51_method_5_code 39 = .ok (.iinc 4 1, 3) := by decide +kernel
theorem d16_42 : decode prog_51_method_5_code 42 = .ok (.goto (-30), 3) := by decide +kernel
theorem d16_45 : decode prog_51_method_5_code 45 = .ok (.aload_n 1, 1) := by decide +kernel
theorem d16_46 : decode prog_51_method_5_code 46 = .ok (.areturn, 1) := by decide +kernel
theorem d17_0 : decode prog_51_method_1_code 0 = .ok (.getstatic 10, 3) := by decide +kernel
theorem d17_3 : decode prog_51_method_1_code 3 = .ok (.invokevirtual 14, 3) := by decide +kernel
theorem d17_6 : decode prog_51_method_1_code 6 = .ok (.checkcast 15, 3) := by decide +kernel
theorem d17_9 : decode prog_51_method_1_code 9 = .ok (.areturn, 1) := by decide +kernel
theorem d18_0 : decode jdk_42_method_66_code 0 = .ok (.aload_n 0, 1) := by decide +kernel
theorem d18_1 : decode jdk_42_method_66_code 1 = .ok (.aload_n 1, 1) := by decide +kernel
theorem d18_2 : decode jdk_42_method_66_code 2 = .ok (.if_acmp .ne 5, 3) := by decide +kernel
theorem d18_7 : decode jdk_42_method_66_code 7 = .ok (.aload_n 1, 1) := by decide +kernel
theorem d18_8 : decode jdk_42_method_66_code 8 = .ok (.instanceof 10, 3) := by decide +kernel
theorem d18_11 : decode jdk_42_method_66_code 11 = .ok (.ifCond .eq 43, 3) := by decide +kernel
theorem d18_14 : decode jdk_42_method_66_code 14 = .ok (.aload_n 1, 1) := by decide +kernel
theorem d18_15 : decode jdk_42_method_66_code 15 = .ok (.checkcast 10, 3) := by decide +kernel
theorem d18_18 : decode jdk_42_method_66_code 18 = .ok (.astore_n 2, 1) := by decide +kernel
theorem d18_19 : decode jdk_42_method_66_code 19 = .ok (.getstatic 38, 3) := by decide +kernel
theorem d18_22 : decode jdk_42_method_66_code 22 = .ok (.ifCond .eq 14, 3) := by decide +kernel
theorem d18_25 : decode jdk_42_method_66_code 25 = .ok (.aload_n 0, 1) := by decide +kernel
theorem d18_26 : decode jdk_42_method_66_code 26 = .ok (.getfield 15, 3) := by decide +kernel
theorem d18_29 : decode jdk_42_method_66_code 29 = .ok (.aload_n 2, 1) := by decide +kernel
theorem d18_30 : decode jdk_42_method_66_code 30 = .ok (.getfield 15, 3) := by decide +kernel
theorem d18_33 : decode jdk_42_method_66_code 33 = .ok (.if_icmp .ne 21, 3) := by decide +kernel
theorem d18_36 : decode jdk_42_method_66_code 36 = .ok (.aload_n 0, 1) := by decide +kernel
theorem d18_37 : decode jdk_42_method_66_code 37 = .ok (.getfield 9, 3) := by decide +kernel
theorem d18_40 : decode jdk_42_method_66_code 40 = .ok (.aload_n 2, 1) := by decide +kernel
theorem d18_41 : decode jdk_42_method_66_code 41 = .ok (.getfield 9, 3) := by decide +kernel
theorem d18_44 : decode jdk_42_method_66_code 44 = .ok (.invokestatic 541, 3) := by decide +kernel
theorem d18_47 : decode jdk_42_method_66_code 47 = .ok (.ifCond .eq 7, 3) := by decide +kernel
theorem d18_50 : decode jdk_42_method_66_code 50 = .ok (.iconst 1, 1) := by decide +kernel
theorem d18_51 : decode jdk_42_method_66_code 51 = .ok (.goto 4, 3) := by decide +kernel
theorem d18_54 : decode jdk_42_method_66_code 54 = .ok (.iconst 0, 1) := by decide +kernel
theorem d18_55 : decode jdk_42_method_66_code 55 = .ok (.ireturn, 1) := by decide +kernel
theorem d19_0 : decode jdk_43_method_13_code 0 = .ok (.aload_n 0, 1) := by decide +kernel
theorem d19_1 : decode jdk_43_method_13_code 1 = .ok (.arraylength, 1) := by decide +kernel
theorem d19_2 : decode jdk_43_method_13_code 2 = .ok (.aload_n 1, 1) := by decide +kernel
theorem d19_3 : decode jdk_43_method_13_code 3 = .ok (.arraylength, 1) := by decide +kernel
theorem d19_4 : decode jdk_43_method_13_code 4 = .ok (.if_icmp .ne 30, 3) := by decide +kernel
theorem d19_7 : decode jdk_43_method_13_code 7 = .ok (.iconst 0, 1) := by decide +kernel
theorem d19_8 : decode jdk_43_method_13_code 8 = .ok (.istore_n 2, 1) := by decide +kernel
theorem d19_9 : decode jdk_43_method_13_code 9 = .ok (.iload_n 2, 1) := by decide +kernel
theorem d19_10 : decode jdk_43_method_13_code 10 = .ok (.aload_n 0, 1) := by decide +kernel
theorem d19_11 : decode jdk_43_method_13_code 11 = .ok (.arraylength, 1) := by decide +kernel
theorem d19_12 : decode jdk_43_method_13_code 12 = .ok (.if_icmp .ge 20, 3) := by decide +kernel
theorem d19_15 : decode jdk_43_method_13_code 15 = .ok (.aload_n 0, 1) := by decide +kernel
theorem d19_16 : decode jdk_43_method_13_code 16 = .ok (.iload_n 2, 1) := by decide +kernel
theorem d19_17 : decode jdk_43_method_13_code 17 = .ok (.baload, 1) := by decide +kernel
theorem d19_18 : decode jdk_43_method_13_code 18 = .ok (.aload_n 1, 1) := by decide +kernel
theorem d19_19 : decode jdk_43_method_13_code 19 = .ok (.iload_n 2, 1) := by decide +kernel
theorem d19_20 : decode jdk_43_method_13_code 20 = .ok (.baload, 1) := by decide +kernel
theorem d19_21 : decode jdk_43_method_13_code 21 = .ok (.if_icmp .eq 5, 3) := by decide +kernel
theorem d19_24 : decode jdk_43_method_13_code 24 = .ok (.iconst 0, 1) := by decide +kernel
theorem d19_25 : decode jdk_43_method_13_code 25 = .ok (.ireturn, 1) := by decide +kernel
theorem d19_26 : decode jdk_43_method_13_code 26 = .ok (.iinc 2 1, 3) := by decide +kernel
theorem d19_29 : decode jdk_43_method_13_code 29 = .ok (.goto (-20), 3) := by decide +kernel
theorem d19_32 : decode jdk_43_method_13_code 32 = .ok (.iconst 1, 1) := by decide +kernel
theorem d19_33 : decode jdk_43_method_13_code 33 = .ok (.ireturn, 1) := by decide +kernel
theorem d19_34 : decode jdk_43_method_13_code 34 = .ok (.iconst 0, 1) := by decide +kernel
theorem d19_35 : decode jdk_43_method_13_code 35 = .ok (.ireturn, 1) := by decide +kernel
theorem d20_0 : decode method_7_code 0 = .ok (.bipush 11, 2) := by decide +kernel
theorem d20_2 : decode method_7_code 2 = .ok (.newarray .char, 2) := by decide +kernel
theorem d20_4 : decode method_7_code 4 = .ok (.astore_n 3, 1) := by decide +kernel
theorem d20_5 : decode method_7_code 5 = .ok (.aload_n 3, 1) := by decide +kernel
theorem d20_6 : decode method_7_code 6 = .ok (.iconst 0, 1) := by decide +kernel
theorem d20_7 : decode method_7_code 7 = .ok (.aload_n 0, 1) := by decide +kernel
theorem d20_8 : decode method_7_code 8 = .ok (.iconst 0, 1) := by decide +kernel
theorem d20_9 : decode method_7_code 9 = .ok (.iload_n 1, 1) := by decide +kernel
theorem d20_10 : decode method_7_code 10 = .ok (.iload_n 2, 1) := by decide +kernel
theorem d20_11 : decode method_7_code 11 = .ok (.invokestatic 62, 3) := by decide +kernel
theorem d20_14 : decode method_7_code 14 = .ok (.castore, 1) := by decide +kernel
theorem d20_15 : decode method_7_code 15 = .ok (.aload_n 3, 1) := by decide +kernel
theorem d20_16 : decode method_7_code 16 = .ok (.iconst 1, 1) := by decide +kernel
theorem d20_17 : decode method_7_code 17 = .ok (.aload_n 0, 1) := by decide +kernel
theorem d20_18 : decode method_7_code 18 = .ok (.iconst 1, 1) := by decide +kernel
theorem d20_19 : decode method_7_code 19 = .ok (.iload_n 1, 1) := by decide +kernel
theorem d20_20 : decode method_7_code 20 = .ok (.iload_n 2, 1) := by decide +kernel
theorem d20_21 : decode method_7_code 21 = .ok (.invokestatic 62, 3) := by decide +kernel
theorem d20_24 : decode method_7_code 24 = .ok (.castore, 1) := by decide +kernel
theorem d20_25 : decode method_7_code 25 = .ok (.aload_n 3, 1) := by decide +kernel
theorem d20_26 : decode method_7_code 26 = .ok (.iconst 2, 1) := by decide +kernel
theorem d20_27 : decode method_7_code 27 = .ok (.aload_n 0, 1) := by decide +kernel
theorem d20_28 : decode method_7_code 28 = .ok (.iconst 2, 1) := by decide +kernel
theorem d20_29 : decode method_7_code 29 = .ok (.iload_n 1, 1) := by decide +kernel
theorem d20_30 : decode method_7_code 30 = .ok (.iload_n 2, 1) := by decide +kernel
theorem d20_31 : decode method_7_code 31 = .ok (.invokestatic 62, 3) := by decide +kernel
theorem d20_34 : decode method_7_code 34 = .ok (.castore, 1) := by decide +kernel
theorem d20_35 : decode method_7_code 35 = .ok (.aload_n 3, 1) := by decide +kernel
theorem d20_36 : decode method_7_code 36 = .ok (.iconst 3, 1) := by decide +kernel
theorem d20_37 : decode method_7_code 37 = .ok (.aload_n 0, 1) := by decide +kernel
theorem d20_38 : decode method_7_code 38 = .ok (.iconst 3, 1) := by decide +kernel
theorem d20_39 : decode method_7_code 39 = .ok (.iload_n 1, 1) := by decide +kernel
theorem d20_40 : decode method_7_code 40 = .ok (.iload_n 2, 1) := by decide +kernel
theorem d20_41 : decode method_7_code 41 = .ok (.invokestatic 62, 3) := by decide +kernel
theorem d20_44 : decode method_7_code 44 = .ok (.castore, 1) := by decide +kernel
theorem d20_45 : decode method_7_code 45 = .ok (.aload_n 3, 1) := by decide +kernel
theorem d20_46 : decode method_7_code 46 = .ok (.iconst 4, 1) := by decide +kernel
theorem d20_47 : decode method_7_code 47 = .ok (.aload_n 0, 1) := by decide +kernel
theorem d20_48 : decode method_7_code 48 = .ok (.iconst 4, 1) := by decide +kernel
theorem d20_49 : decode method_7_code 49 = .ok (.iload_n 1, 1) := by decide +kernel
theorem d20_50 : decode method_7_code 50 = .ok (.iload_n 2, 1) := by decide +kernel
theorem d20_51 : decode method_7_code 51 = .ok (.invokestatic 62, 3) := by decide +kernel
theorem d20_54 : decode method_7_code 54 = .ok (.castore, 1) := by decide +kernel
theorem d20_55 : decode method_7_code 55 = .ok (.aload_n 3, 1) := by decide +kernel
theorem d20_56 : decode method_7_code 56 = .ok (.iconst 5, 1) := by decide +kernel
theorem d20_57 : decode method_7_code 57 = .ok (.aload_n 0, 1) := by decide +kernel
theorem d20_58 : decode method_7_code 58 = .ok (.iconst 5, 1) := by decide +kernel
theorem d20_59 : decode method_7_code 59 = .ok (.iload_n 1, 1) := by decide +kernel
theorem d20_60 : decode method_7_code 60 = .ok (.iload_n 2, 1) := by decide +kernel
theorem d20_61 : decode method_7_code 61 = .ok (.invokestatic 62, 3) := by decide +kernel
theorem d20_64 : decode method_7_code 64 = .ok (.castore, 1) := by decide +kernel
theorem d20_65 : decode method_7_code 65 = .ok (.aload_n 3, 1) := by decide +kernel
theorem d20_66 : decode method_7_code 66 = .ok (.bipush 6, 2) := by decide +kernel
theorem d20_68 : decode method_7_code 68 = .ok (.aload_n 0, 1) := by decide +kernel
theorem d20_69 : decode method_7_code 69 = .ok (.bipush 6, 2) := by decide +kernel
theorem d20_71 : decode method_7_code 71 = .ok (.iload_n 1, 1) := by decide +kernel
theorem d20_72 : decode method_7_code 72 = .ok (.iload_n 2, 1) := by decide +kernel
theorem d20_73 : decode method_7_code 73 = .ok (.invokestatic 62, 3) := by decide +kernel
theorem d20_76 : decode method_7_code 76 = .ok (.castore, 1) := by decide +kernel
theorem d20_77 : decode method_7_code 77 = .ok (.aload_n 3, 1) := by decide +kernel
theorem d20_78 : decode method_7_code 78 = .ok (.bipush 7, 2) := by decide +kernel
theorem d20_80 : decode method_7_code 80 = .ok (.aload_n 0, 1) := by decide +kernel
theorem d20_81 : decode method_7_code 81 = .ok (.bipush 7, 2) := by decide +kernel
theorem d20_83 : decode method_7_code 83 = .ok (.iload_n 1, 1) := by decide +kernel
theorem d20_84 : decode method_7_code 84 = .ok (.iload_n 2, 1) := by decide +kernel
theorem d20_85 : decode method_7_code 85 = .ok (.invokestatic 62, 3) := by decide +kernel
theorem d20_88 : decode method_7_code 88 = .ok (.castore, 1) := by decide +kernel
theorem d20_89 : decode method_7_code 89 = .ok (.aload_n 3, 1) := by decide +kernel
theorem d20_90 : decode method_7_code 90 = .ok (.bipush 8, 2) := by decide +kernel
theorem d20_92 : decode method_7_code 92 = .ok (.aload_n 0, 1) := by decide +kernel
theorem d20_93 : decode method_7_code 93 = .ok (.bipush 8, 2) := by decide +kernel
theorem d20_95 : decode method_7_code 95 = .ok (.iload_n 1, 1) := by decide +kernel
theorem d20_96 : decode method_7_code 96 = .ok (.iload_n 2, 1) := by decide +kernel
theorem d20_97 : decode method_7_code 97 = .ok (.invokestatic 62, 3) := by decide +kernel
theorem d20_100 : decode method_7_code 100 = .ok (.castore, 1) := by decide +kernel
theorem d20_101 : decode method_7_code 101 = .ok (.aload_n 3, 1) := by decide +kernel
theorem d20_102 : decode method_7_code 102 = .ok (.bipush 9, 2) := by decide +kernel
theorem d20_104 : decode method_7_code 104 = .ok (.aload_n 0, 1) := by decide +kernel
theorem d20_105 : decode method_7_code 105 = .ok (.bipush 9, 2) := by decide +kernel
theorem d20_107 : decode method_7_code 107 = .ok (.iload_n 1, 1) := by decide +kernel
theorem d20_108 : decode method_7_code 108 = .ok (.iload_n 2, 1) := by decide +kernel
theorem d20_109 : decode method_7_code 109 = .ok (.invokestatic 62, 3) := by decide +kernel
theorem d20_112 : decode method_7_code 112 = .ok (.castore, 1) := by decide +kernel
theorem d20_113 : decode method_7_code 113 = .ok (.aload_n 3, 1) := by decide +kernel
theorem d20_114 : decode method_7_code 114 = .ok (.bipush 10, 2) := by decide +kernel
theorem d20_116 : decode method_7_code 116 = .ok (.aload_n 0, 1) := by decide +kernel
theorem d20_117 : decode method_7_code 117 = .ok (.bipush 10, 2) := by decide +kernel
theorem d20_119 : decode method_7_code 119 = .ok (.iload_n 1, 1) := by decide +kernel
theorem d20_120 : decode method_7_code 120 = .ok (.iload_n 2, 1) := by decide +kernel
theorem d20_121 : decode method_7_code 121 = .ok (.invokestatic 62, 3) := by decide +kernel
theorem d20_124 : decode method_7_code 124 = .ok (.castore, 1) := by decide +kernel
theorem d20_125 : decode method_7_code 125 = .ok (.new 17, 3) := by decide +kernel
theorem d20_128 : decode method_7_code 128 = .ok (.dup, 1) := by decide +kernel
theorem d20_129 : decode method_7_code 129 = .ok (.aload_n 3, 1) := by decide +kernel
theorem d20_130 : decode method_7_code 130 = .ok (.invokespecial 51, 3) := by decide +kernel
theorem d20_133 : decode method_7_code 133 = .ok (.areturn, 1) := by decide +kernel
theorem d21_0 : decode method_4_code 0 = .ok (.bipush 8, 2) := by decide +kernel
theorem d21_2 : decode method_4_code 2 = .ok (.newarray .char, 2) := by decide +kernel
theorem d21_4 : decode method_4_code 4 = .ok (.astore_n 3, 1) := by decide +kernel
theorem d21_5 : decode method_4_code 5 = .ok (.aload_n 3, 1) := by decide +kernel
theorem d21_6 : decode method_4_code 6 = .ok (.iconst 0, 1) := by decide +kernel
theorem d21_7 : decode method_4_code 7 = .ok (.aload_n 0, 1) := by decide +kernel
theorem d21_8 : decode method_4_code 8 = .ok (.iconst 0, 1) := by decide +kernel
theorem d21_9 : decode method_4_code 9 = .ok (.iload_n 1, 1) := by decide +kernel
theorem d21_10 : decode method_4_code 10 = .ok (.iload_n 2, 1) := by decide +kernel
theorem d21_11 : decode method_4_code 11 = .ok (.invokestatic 62, 3) := by decide +kernel
theorem d21_14 : decode method_4_code 14 = .ok (.castore, 1) := by decide +kernel
theorem d21_15 : decode method_4_code 15 = .ok (.aload_n 3, 1) := by decide +kernel
theorem d21_16 : decode method_4_code 16 = .ok (.iconst 1, 1) := by decide +kernel
theorem d21_17 : decode method_4_code 17 = .ok (.aload_n 0, 1) := by decide +kernel
theorem d21_18 : decode method_4_code 18 = .ok (.iconst 1, 1) := by decide +kernel
theorem d21_19 : decode method_4_code 19 = .ok (.iload_n 1, 1) := by decide +kernel
theorem d21_20 : decode method_4_code 20 = .ok (.iload_n 2, 1) := by decide +kernel
theorem d21_21 : decode method_4_code 21 = .ok (.invokestatic 62, 3) := by decide +kernel
theorem d21_24 : decode method_4_code 24 = .ok (.castore, 1) := by decide +kernel
theorem d21_25 : decode method_4_code 25 = .ok (.aload_n 3, 1) := by decide +kernel
theorem d21_26 : decode method_4_code 26 = .ok (.iconst 2, 1) := by decide +kernel
theorem d21_27 : decode method_4_code 27 = .ok (.aload_n 0, 1) := by decide +kernel
theorem d21_28 : decode method_4_code 28 = .ok (.iconst 2, 1) := by decide +kernel
theorem d21_29 : decode method_4_code 29 = .ok (.iload_n 1, 1) := by decide +kernel
theorem d21_30 : decode method_4_code 30 = .ok (.iload_n 2, 1) := by decide +kernel
theorem d21_31 : decode method_4_code 31 = .ok (.invokestatic 62, 3) := by decide +kernel
theorem d21_34 : decode method_4_code 34 = .ok (.castore, 1) := by decide +kernel
theorem d21_35 : decode method_4_code 35 = .ok (.aload_n 3, 1) := by decide +kernel
theorem d21_36 : decode method_4_code 36 = .ok (.iconst 3, 1) := by decide +kernel
theorem d21_37 : decode method_4_code 37 = .ok (.aload_n 0, 1) := by decide +kernel
theorem d21_38 : decode method_4_code 38 = .ok (.iconst 3, 1) := by decide +kernel
theorem d21_39 : decode method_4_code 39 = .ok (.iload_n 1, 1) := by decide +kernel
theorem d21_40 : decode method_4_code 40 = .ok (.iload_n 2, 1) := by decide +kernel
theorem d21_41 : decode method_4_code 41 = .ok (.invokestatic 62, 3) := by decide +kernel
theorem d21_44 : decode method_4_code 44 = .ok (.castore, 1) := by decide +kernel
theorem d21_45 : decode method_4_code 45 = .ok (.aload_n 3, 1) := by decide +kernel
theorem d21_46 : decode method_4_code 46 = .ok (.iconst 4, 1) := by decide +kernel
theorem d21_47 : decode method_4_code 47 = .ok (.aload_n 0, 1) := by decide +kernel
theorem d21_48 : decode method_4_code 48 = .ok (.iconst 4, 1) := by decide +kernel
theorem d21_49 : decode method_4_code 49 = .ok (.iload_n 1, 1) := by decide +kernel
theorem d21_50 : decode method_4_code 50 = .ok (.iload_n 2, 1) := by decide +kernel
theorem d21_51 : decode method_4_code 51 = .ok (.invokestatic 62, 3) := by decide +kernel
theorem d21_54 : decode method_4_code 54 = .ok (.castore, 1) := by decide +kernel
theorem d21_55 : decode method_4_code 55 = .ok (.aload_n 3, 1) := by decide +kernel
theorem d21_56 : decode method_4_code 56 = .ok (.iconst 5, 1) := by decide +kernel
theorem d21_57 : decode method_4_code 57 = .ok (.aload_n 0, 1) := by decide +kernel
theorem d21_58 : decode method_4_code 58 = .ok (.iconst 5, 1) := by decide +kernel
theorem d21_59 : decode method_4_code 59 = .ok (.iload_n 1, 1) := by decide +kernel
theorem d21_60 : decode method_4_code 60 = .ok (.iload_n 2, 1) := by decide +kernel
theorem d21_61 : decode method_4_code 61 = .ok (.invokestatic 62, 3) := by decide +kernel
theorem d21_64 : decode method_4_code 64 = .ok (.castore, 1) := by decide +kernel
theorem d21_65 : decode method_4_code 65 = .ok (.aload_n 3, 1) := by decide +kernel
theorem d21_66 : decode method_4_code 66 = .ok (.bipush 6, 2) := by decide +kernel
theorem d21_68 : decode method_4_code 68 = .ok (.aload_n 0, 1) := by decide +kernel
theorem d21_69 : decode method_4_code 69 = .ok (.bipush 6, 2) := by decide +kernel
theorem d21_71 : decode method_4_code 71 = .ok (.iload_n 1, 1) := by decide +kernel
theorem d21_72 : decode method_4_code 72 = .ok (.iload_n 2, 1) := by decide +kernel
theorem d21_73 : decode method_4_code 73 = .ok (.invokestatic 62, 3) := by decide +kernel
theorem d21_76 : decode method_4_code 76 = .ok (.castore, 1) := by decide +kernel
theorem d21_77 : decode method_4_code 77 = .ok (.aload_n 3, 1) := by decide +kernel
theorem d21_78 : decode method_4_code 78 = .ok (.bipush 7, 2) := by decide +kernel
theorem d21_80 : decode method_4_code 80 = .ok (.aload_n 0, 1) := by decide +kernel
theorem d21_81 : decode method_4_code 81 = .ok (.bipush 7, 2) := by decide +kernel
theorem d21_83 : decode method_4_code 83 = .ok (.iload_n 1, 1) := by decide +kernel
theorem d21_84 : decode method_4_code 84 = .ok (.iload_n 2, 1) := by decide +kernel
theorem d21_85 : decode method_4_code 85 = .ok (.invokestatic 62, 3) := by decide +kernel
theorem d21_88 : decode method_4_code 88 = .ok (.castore, 1) := by decide +kernel
theorem d21_89 : decode method_4_code 89 = .ok (.new 17, 3) := by decide +kernel
theorem d21_92 : decode method_4_code 92 = .ok (.dup, 1) := by decide +kernel
theorem d21_93 : decode method_4_code 93 = .ok (.aload_n 3, 1) := by decide +kernel
theorem d21_94 : decode method_4_code 94 = .ok (.invokespecial 51, 3) := by decide +kernel
theorem d21_97 : decode method_4_code 97 = .ok (.areturn, 1) := by decide +kernel
theorem d22_0 : decode method_6_code 0 = .ok (.bipush 10, 2) := by decide +kernel
theorem d22_2 : decode method_6_code 2 = .ok (.newarray .char, 2) := by decide +kernel
theorem d22_4 : decode method_6_code 4 = .ok (.astore_n 3, 1) := by decide +kernel
theorem d22_5 : decode method_6_code 5 = .ok (.aload_n 3, 1) := by decide +kernel
theorem d22_6 : decode method_6_code 6 = .ok (.iconst 0, 1) := by decide +kernel
theorem d22_7 : decode method_6_code 7 = .ok (.aload_n 0, 1) := by decide +kernel
theorem d22_8 : decode method_6_code 8 = .ok (.iconst 0, 1) := by decide +kernel
theorem d22_9 : decode method_6_code 9 = .ok (.iload_n 1, 1) := by decide +kernel
theorem d22_10 : decode method_6_code 10 = .ok (.iload_n 2, 1) := by decide +kernel
theorem d22_11 : decode method_6_code 11 = .ok (.invokestatic 62, 3) := by decide +kernel
theorem d22_14 : decode method_6_code 14 = .ok (.castore, 1) := by decide +kernel
theorem d22_15 : decode method_6_code 15 = .ok (.aload_n 3, 1) := by decide +kernel
theorem d22_16 : decode method_6_code 16 = .ok (.iconst 1, 1) := by decide +kernel
theorem d22_17 : decode method_6_code 17 = .ok (.aload_n 0, 1) := by decide +kernel
theorem d22_18 : decode method_6_code 18 = .ok (.iconst 1, 1) := by decide +kernel
theorem d22_19 : decode method_6_code 19 = .ok (.iload_n 1, 1) := by decide +kernel
theorem d22_20 : decode method_6_code 20 = .ok (.iload_n 2, 1) := by decide +kernel
theorem d22_21 : decode method_6_code 21 = .ok (.invokestatic 62, 3) := by decide +kernel
theorem d22_24 : decode method_6_code 24 = .ok (.castore, 1) := by decide +kernel
theorem d22_25 : decode method_6_code 25 = .ok (.aload_n 3, 1) := by decide +kernel
theorem d22_26 : decode method_6_code 26 = .ok (.iconst 2, 1) := by decide +kernel
theorem d22_27 : decode method_6_code 27 = .ok (.aload_n 0, 1) := by decide +kernel
theorem d22_28 : decode method_6_code 28 = .ok (.iconst 2, 1) := by decide +kernel
theorem d22_29 : decode method_6_code 29 = .ok (.iload_n 1, 1) := by decide +kernel
theorem d22_30 : decode method_6_code 30 = .ok (.iload_n 2, 1) := by decide +kernel
theorem d22_31 : decode method_6_code 31 = .ok (.invokestatic 62, 3) := by decide +kernel
theorem d22_34 : decode method_6_code 34 = .ok (.castore, 1) := by decide +kernel
theorem d22_35 : decode method_6_code 35 = .ok (.aload_n 3, 1) := by decide +kernel
theorem d22_36 : decode method_6_code 36 = .ok (.iconst 3, 1) := by decide +kernel
theorem d22_37 : decode method_6_code 37 = .ok (.aload_n 0, 1) := by decide +kernel
theorem d22_38 : decode method_6_code 38 = .ok (.iconst 3, 1) := by decide +kernel
theorem d22_39 : decode method_6_code 39 = .ok (.iload_n 1, 1) := by decide +kernel
theorem d22_40 : decode method_6_code 40 = .ok (.iload_n 2, 1) := by decide +kernel
theorem d22_41 : decode method_6_code 41 = .ok (.invokestatic 62, 3) := by decide +kernel
theorem d22_44 : decode method_6_code 44 = .ok (.castore, 1) := by decide +kernel
theorem d22_45 : decode method_6_code 45 = .ok (.aload_n 3, 1) := by decide +kernel
theorem d22_46 : decode method_6_code 46 = .ok (.iconst 4, 1) := by decide +kernel
theorem d22_47 : decode method_6_code 47 = .ok (.aload_n 0, 1) := by decide +kernel
theorem d22_48 : decode method_6_code 48 = .ok (.iconst 4, 1) := by decide +kernel
theorem d22_49 : decode method_6_code 49 = .ok (.iload_n 1, 1) := by decide +kernel
theorem d22_50 : decode method_6_code 50 = .ok (.iload_n 2, 1) := by decide +kernel
theorem d22_51 : decode method_6_code 51 = .ok (.invokestatic 62, 3) := by decide +kernel
theorem d22_54 : decode method_6_code 54 = .ok (.castore, 1) := by decide +kernel
theorem d22_55 : decode method_6_code 55 = .ok (.aload_n 3, 1) := by decide +kernel
theorem d22_56 : decode method_6_code 56 = .ok (.iconst 5, 1) := by decide +kernel
theorem d22_57 : decode method_6_code 57 = .ok (.aload_n 0, 1) := by decide +kernel
theorem d22_58 : decode method_6_code 58 = .ok (.iconst 5, 1) := by decide +kernel
theorem d22_59 : decode method_6_code 59 = .ok (.iload_n 1, 1) := by decide +kernel
theorem d22_60 : decode method_6_code 60 = .ok (.iload_n 2, 1) := by decide +kernel
theorem d22_61 : decode method_6_code 61 = .ok (.invokestatic 62, 3) := by decide +kernel
theorem d22_64 : decode method_6_code 64 = .ok (.castore, 1) := by decide +kernel
theorem d22_65 : decode method_6_code 65 = .ok (.aload_n 3, 1) := by decide +kernel
theorem d22_66 : decode method_6_code 66 = .ok (.bipush 6, 2) := by decide +kernel
theorem d22_68 : decode method_6_code 68 = .ok (.aload_n 0, 1) := by decide +kernel
theorem d22_69 : decode method_6_code 69 = .ok (.bipush 6, 2) := by decide +kernel
theorem d22_71 : decode method_6_code 71 = .ok (.iload_n 1, 1) := by decide +kernel
theorem d22_72 : decode method_6_code 72 = .ok (.iload_n 2, 1) := by decide +kernel
theorem d22_73 : decode method_6_code 73 = .ok (.invokestatic 62, 3) := by decide +kernel
theorem d22_76 : decode method_6_code 76 = .ok (.castore, 1) := by decide +kernel
theorem d22_77 : decode method_6_code 77 = .ok (.aload_n 3, 1) := by decide +kernel
theorem d22_78 : decode method_6_code 78 = .ok (.bipush 7, 2) := by decide +kernel
theorem d22_80 : decode method_6_code 80 = .ok (.aload_n 0, 1) := by decide +kernel
theorem d22_81 : decode method_6_code 81 = .ok (.bipush 7, 2) := by decide +kernel
theorem d22_83 : decode method_6_code 83 = .ok (.iload_n 1, 1) := by decide +kernel
theorem d22_84 : decode method_6_code 84 = .ok (.iload_n 2, 1) := by decide +kernel
theorem d22_85 : decode method_6_code 85 = .ok (.invokestatic 62, 3) := by decide +kernel
theorem d22_88 : decode method_6_code 88 = .ok (.castore, 1) := by decide +kernel
theorem d22_89 : decode method_6_code 89 = .ok (.aload_n 3, 1) := by decide +kernel
theorem d22_90 : decode method_6_code 90 = .ok (.bipush 8, 2) := by decide +kernel
theorem d22_92 : decode method_6_code 92 = .ok (.aload_n 0, 1) := by decide +kernel
theorem d22_93 : decode method_6_code 93 = .ok (.bipush 8, 2) := by decide +kernel
theorem d22_95 : decode method_6_code 95 = .ok (.iload_n 1, 1) := by decide +kernel
theorem d22_96 : decode method_6_code 96 = .ok (.iload_n 2, 1) := by decide +kernel
theorem d22_97 : decode method_6_code 97 = .ok (.invokestatic 62, 3) := by decide +kernel
theorem d22_100 : decode method_6_code 100 = .ok (.castore, 1) := by decide +kernel
theorem d22_101 : decode method_6_code 101 = .ok (.aload_n 3, 1) := by decide +kernel
theorem d22_102 : decode method_6_code 102 = .ok (.bipush 9, 2) := by decide +kernel
theorem d22_104 : decode method_6_code 104 = .ok (.aload_n 0, 1) := by decide +kernel
theorem d22_105 : decode method_6_code 105 = .ok (.bipush 9, 2) := by decide +kernel
theorem d22_107 : decode method_6_code 107 = .ok (.iload_n 1, 1) := by decide +kernel
theorem d22_108 : decode method_6_code 108 = .ok (.iload_n 2, 1) := by decide +kernel
theorem d22_109 : decode method_6_code 109 = .ok (.invokestatic 62, 3) := by decide +kernel
theorem d22_112 : decode method_6_code 112 = .ok (.castore, 1) := by decide +kernel
theorem d22_113 : decode method_6_code 113 = .ok (.new 17, 3) := by decide +kernel
theorem d22_116 : decode method_6_code 116 = .ok (.dup, 1) := by decide +kernel
theorem d22_117 : decode method_6_code 117 = .ok (.aload_n 3, 1) := by decide +kernel
theorem d22_118 : decode method_6_code 118 = .ok (.invokespecial 51, 3) := by decide +kernel
theorem d22_121 : decode method_6_code 121 = .ok (.areturn, 1) := by decide +kernel
theorem d23_0 : decode method_8_code 0 = .ok (.bipush 12, 2) := by decide +kernel
theorem d23_2 : decode method_8_code 2 = .ok (.newarray .char, 2) := by decide +kernel
theorem d23_4 : decode method_8_code 4 = .ok (.astore_n 3, 1) := by decide +kernel
theorem d23_5 : decode method_8_code 5 = .ok (.aload_n 3, 1) := by decide +kernel
theorem d23_6 : decode method_8_code 6 = .ok (.iconst 0, 1) := by decide +kernel
theorem d23_7 : decode method_8_code 7 = .ok (.aload_n 0, 1) := by decide +kernel
theorem d23_8 : decode method_8_code 8 = .ok (.iconst 0, 1) := by decide +kernel
theorem d23_9 : decode method_8_code 9 = .ok (.iload_n 1, 1) := by decide +kernel
theorem d23_10 : decode method_8_code 10 = .ok (.iload_n 2, 1) := by decide +kernel
theorem d23_11 : decode method_8_code 11 = .ok (.invokestatic 62, 3) := by decide +kernel
theorem d23_14 : decode method_8_code 14 = .ok (.castore, 1) := by decide +kernel
theorem d23_15 : decode method_8_code 15 = .ok (.aload_n 3, 1) := by decide +kernel
theorem d23_16 : decode method_8_code 16 = .ok (.iconst 1, 1) := by decide +kernel
theorem d23_17 : decode method_8_code 17 = .ok (.aload_n 0, 1) := by decide +kernel
theorem d23_18 : decode method_8_code 18 = .ok (.iconst 1, 1) := by decide +kernel
theorem d23_19 : decode method_8_code 19 = .ok (.iload_n 1, 1) := by decide +kernel
theorem d23_20 : decode method_8_code 20 = .ok (.iload_n 2, 1) := by decide +kernel
theorem d23_21 : decode method_8_code 21 = .ok (.invokestatic 62, 3) := by decide +kernel
theorem d23_24 : decode method_8_code 24 = .ok (.castore, 1) := by decide +kernel
theorem d23_25 : decode method_8_code 25 = .ok (.aload_n 3, 1) := by decide +kernel
theorem d23_26 : decode method_8_code 26 = .ok (.iconst 2, 1) := by decide +kernel
theorem d23_27 : decode method_8_code 27 = .ok (.aload_n 0, 1) := by decide +kernel
theorem d23_28 : decode method_8_code 28 = .ok (.iconst 2, 1) := by decide +kernel
theorem d23_29 : decode method_8_code 29 = .ok (.iload_n 1, 1) := by decide +kernel
theorem d23_30 : decode method_8_code 30 = .ok (.iload_n 2, 1) := by decide +kernel
theorem d23_31 : decode method_8_code 31 = .ok (.invokestatic 62, 3) := by decide +kernel
theorem d23_34 : decode method_8_code 34 = .ok (.castore, 1) := by decide +kernel
theorem d23_35 : decode method_8_code 35 = .ok (.aload_n 3, 1) := by decide +kernel
theorem d23_36 : decode method_8_code 36 = .ok (.iconst 3, 1) := by decide +kernel
theorem d23_37 : decode method_8_code 37 = .ok (.aload_n 0, 1) := by decide +kernel
theorem d23_38 : decode method_8_code 38 = .ok (.iconst 3, 1) := by decide +kernel
theorem d23_39 : decode method_8_code 39 = .ok (.iload_n 1, 1) := by decide +kernel
theorem d23_40 : decode method_8_code 40 = .ok (.iload_n 2, 1) := by decide +kernel
theorem d23_41 : decode method_8_code 41 = .ok (.invokestatic 62, 3) := by decide +kernel
theorem d23_44 : decode method_8_code 44 = .ok (.castore, 1) := by decide +kernel
theorem d23_45 : decode method_8_code 45 = .ok (.aload_n 3, 1) := by decide +kernel
theorem d23_46 : decode method_8_code 46 = .ok (.iconst 4, 1) := by decide +kernel
theorem d23_47 : decode method_8_code 47 = .ok (.aload_n 0, 1) := by decide +kernel
theorem d23_48 : decode method_8_code 48 = .ok (.iconst 4, 1) := by decide +kernel
theorem d23_49 : decode method_8_code 49 = .ok (.iload_n 1, 1) := by decide +kernel
theorem d23_50 : decode method_8_code 50 = .ok (.iload_n 2, 1) := by decide +kernel
theorem d23_51 : decode method_8_code 51 = .ok (.invokestatic 62, 3) := by decide +kernel
theorem d23_54 : decode method_8_code 54 = .ok (.castore, 1) := by decide +kernel
theorem d23_55 : decode method_8_code 55 = .ok (.aload_n 3, 1) := by decide +kernel
theorem d23_56 : decode method_8_code 56 = .ok (.iconst 5, 1) := by decide +kernel
theorem d23_57 : decode method_8_code 57 = .ok (.aload_n 0, 1) := by decide +kernel
theorem d23_58 : decode method_8_code 58 = .ok (.iconst 5, 1) := by decide +kernel
theorem d23_59 : decode method_8_code 59 = .ok (.iload_n 1, 1) := by decide +kernel
theorem d23_60 : decode method_8_code 60 = .ok (.iload_n 2, 1) := by decide +kernel
theorem d23_61 : decode method_8_code 61 = .ok (.invokestatic 62, 3) := by decide +kernel
theorem d23_64 : decode method_8_code 64 = .ok (.castore, 1) := by decide +kernel
theorem d23_65 : decode method_8_code 65 = .ok (.aload_n 3, 1) := by decide +kernel
theorem d23_66 : decode method_8_code 66 = .ok (.bipush 6, 2) := by decide +kernel
theorem d23_68 : decode method_8_code 68 = .ok (.aload_n 0, 1) := by decide +kernel
theorem d23_69 : decode method_8_code 69 = .ok (.bipush 6, 2) := by decide +kernel
theorem d23_71 : decode method_8_code 71 = .ok (.iload_n 1, 1) := by decide +kernel
theorem d23_72 : decode method_8_code 72 = .ok (.iload_n 2, 1) := by decide +kernel
theorem d23_73 : decode method_8_code 73 = .ok (.invokestatic 62, 3) := by decide +kernel
theorem d23_76 : decode method_8_code 76 = .ok (.castore, 1) := by decide +kernel
theorem d23_77 : decode method_8_code 77 = .ok (.aload_n 3, 1) := by decide +kernel
theorem d23_78 : decode method_8_code 78 = .ok (.bipush 7, 2) := by decide +kernel
theorem d23_80 : decode method_8_code 80 = .ok (.aload_n 0, 1) := by decide +kernel
theorem d23_81 : decode method_8_code 81 = .ok (.bipush 7, 2) := by decide +kernel
theorem d23_83 : decode method_8_code 83 = .ok (.iload_n 1, 1) := by decide +kernel
theorem d23_84 : decode method_8_code 84 = .ok (.iload_n 2, 1) := by decide +kernel
theorem d23_85 : decode method_8_code 85 = .ok (.invokestatic 62, 3) := by decide +kernel
theorem d23_88 : decode method_8_code 88 = .ok (.castore, 1) := by decide +kernel
theorem d23_89 : decode method_8_code 89 = .ok (.aload_n 3, 1) := by decide +kernel
theorem d23_90 : decode method_8_code 90 = .ok (.bipush 8, 2) := by decide +kernel
theorem d23_92 : decode method_8_code 92 = .ok (.aload_n 0, 1) := by decide +kernel
theorem d23_93 : decode method_8_code 93 = .ok (.bipush 8, 2) := by decide +kernel
theorem d23_95 : decode method_8_code 95 = .ok (.iload_n 1, 1) := by decide +kernel
theorem d23_96 : decode method_8_code 96 = .ok (.iload_n 2, 1) := by decide +kernel
theorem d23_97 : decode method_8_code 97 = .ok (.invokestatic 62, 3) := by decide +kernel
theorem d23_100 : decode method_8_code 100 = .ok (.castore, 1) := by decide +kernel
theorem d23_101 : decode method_8_code 101 = .ok (.aload_n 3, 1) := by decide +kernel
theorem d23_102 : decode method_8_code 102 = .ok (.bipush 9, 2) := by decide +kernel
theorem d23_104 : decode method_8_code 104 = .ok (.aload_n 0, 1) := by decide +kernel
theorem d23_105 : decode method_8_code 105 = .ok (.bipush 9, 2) := by decide +kernel
theorem d23_107 : decode method_8_code 107 = .ok (.iload_n 1, 1) := by decide +kernel
theorem d23_108 : decode method_8_code 108 = .ok (.iload_n 2, 1) := by decide +kernel
theorem d23_109 : decode method_8_code 109 = .ok (.invokestatic 62, 3) := by decide +kernel
theorem d23_112 : decode method_8_code 112 = .ok (.castore, 1) := by decide +kernel
theorem d23_113 : decode method_8_code 113 = .ok (.aload_n 3, 1) := by decide +kernel
theorem d23_114 : decode method_8_code 114 = .ok (.bipush 10, 2) := by decide +kernel
theorem d23_116 : decode method_8_code 116 = .ok (.aload_n 0, 1) := by decide +kernel
theorem d23_117 : decode method_8_code 117 = .ok (.bipush 10, 2) := by decide +kernel
theorem d23_119 : decode method_8_code 119 = .ok (.iload_n 1, 1) := by decide +kernel
theorem d23_120 : decode method_8_code 120 = .ok (.iload_n 2, 1) := by decide +kernel
theorem d23_121 : decode method_8_code 121 = .ok (.invokestatic 62, 3) := by decide +kernel
theorem d23_124 : decode method_8_code 124 = .ok (.castore, 1) := by decide +kernel
theorem d23_125 : decode method_8_code 125 = .ok (.aload_n 3, 1) := by decide +kernel
theorem d23_126 : decode method_8_code 126 = .ok (.bipush 11, 2) := by decide +kernel
theorem d23_128 : decode method_8_code 128 = .ok (.aload_n 0, 1) := by decide +kernel
theorem d23_129 : decode method_8_code 129 = .ok (.bipush 11, 2) := by decide +kernel
theorem d23_131 : decode method_8_code 131 = .ok (.iload_n 1, 1) := by decide +kernel
theorem d23_132 : decode method_8_code 132 = .ok (.iload_n 2, 1) := by decide +kernel
theorem d23_133 : decode method_8_code 133 = .ok (.invokestatic 62, 3) := by decide +kernel
theorem d23_136 : decode method_8_code 136 = .ok (.castore, 1) := by decide +kernel
theorem d23_137 : decode method_8_code 137 = .ok (.new 17, 3) := by decide +kernel
theorem d23_140 : decode method_8_code 140 = .ok (.dup, 1) := by decide +kernel
theorem d23_141 : decode method_8_code 141 = .ok (.aload_n 3, 1) := by decide +kernel
theorem d23_142 : decode method_8_code 142 = .ok (.invokespecial 51, 3) := by decide +kernel
theorem d23_145 : decode method_8_code 145 = .ok (.areturn, 1) := by decide +kernel
theorem d24_0 : decode jdk_42_method_139_code 0 = .ok (.getstatic 38, 3) := by decide +kernel
theorem d24_3 : decode jdk_42_method_139_code 3 = .ok (.ifCond .eq 23, 3) := by decide +kernel
theorem d24_6 : decode jdk_42_method_139_code 6 = .ok (.iload_n 0, 1) := by decide +kernel
theorem d24_7 : decode jdk_42_method_139_code 7 = .ok (.invokestatic 1015, 3) := by decide +kernel
theorem d24_10 : decode jdk_42_method_139_code 10 = .ok (.ifCond .eq 16, 3) := by decide +kernel
theorem d24_13 : decode jdk_42_method_139_code 13 = .ok (.new 10, 3) := by decide +kernel
theorem d24_16 : decode jdk_42_method_139_code 16 = .ok (.dup, 1) := by decide +kernel
theorem d24_17 : decode jdk_42_method_139_code 17 = .ok (.iload_n 0, 1) := by decide +kernel
theorem d24_18 : decode jdk_42_method_139_code 18 = .ok (.invokestatic 1018, 3) := by decide +kernel
theorem d24_21 : decode jdk_42_method_139_code 21 = .ok (.iconst 0, 1) := by decide +kernel
theorem d24_22 : decode jdk_42_method_139_code 22 = .ok (.invokespecial 209, 3) := by decide +kernel
theorem d24_25 : decode jdk_42_method_139_code 25 = .ok (.areturn, 1) := by decide +kernel
theorem d25_0 : decode jdk_43_method_3_code 0 = .ok (.iload_n 0, 1) := by decide +kernel
theorem d25_1 : decode jdk_43_method_3_code 1 = .ok (.sipush 255, 3) := by decide +kernel
theorem d25_4 : decode jdk_43_method_3_code 4 = .ok (.if_icmp .gt 7, 3) := by decide +kernel
theorem d25_7 : decode jdk_43_method_3_code 7 = .ok (.iconst 1, 1) := by decide +kernel
theorem d25_8 : decode jdk_43_method_3_code 8 = .ok (.goto 4, 3) := by decide +kernel
theorem d25_12 : decode jdk_43_method_3_code 12 = .ok (.ireturn, 1) := by decide +kernel
theorem d26_0 : decode jdk_43_method_46_code 0 = .ok (.iconst 1, 1) := by decide +kernel
theorem d26_1 : decode jdk_43_method_46_code 1 = .ok (.newarray .byte, 2) := by decide +kernel
theorem d26_3 : decode jdk_43_method_46_code 3 = .ok (.dup, 1) := by decide +kernel
theorem d26_4 : decode jdk_43_method_46_code 4 = .ok (.iconst 0, 1) := by decide +kernel
theorem d26_5 : decode jdk_43_method_46_code 5 = .ok (.iload_n 0, 1) := by decide +kernel
theorem d26_6 : decode jdk_43_method_46_code 6 = .ok (.i2b, 1) := by decide +kernel
theorem d26_7 : decode jdk_43_method_46_code 7 = .ok (.bastore, 1) := by decide +kernel
theorem d26_8 : decode jdk_43_method_46_code 8 = .ok (.areturn, 1) := by decide +kernel
theorem d27_0 : decode jdk_42_method_151_code 0 = .ok (.aload_n 0, 1) := by decide +kernel
theorem d27_1 : decode jdk_42_method_151_code 1 = .ok (.invokespecial 1, 3) := by decide +kernel
theorem d27_4 : decode jdk_42_method_151_code 4 = .ok (.aload_n 0, 1) := by decide +kernel
theorem d27_5 : decode jdk_42_method_151_code 5 = .ok (.aload_n 1, 1) := by decide +kernel
theorem d27_6 : decode jdk_42_method_151_code 6 = .ok (.putfield 9, 3) := by decide +kernel
theorem d27_9 : decode jdk_42_method_151_code 9 = .ok (.aload_n 0, 1) := by decide +kernel
theorem d27_10 : decode jdk_42_method_151_code 10 = .ok (.iload_n 2, 1) := by decide +kernel
theorem d27_11 : decode jdk_42_method_151_code 11 = .ok (.putfield 15, 3) := by decide +kernel
theorem d27_14 : decode jdk_42_method_151_code 14 = .ok (.return_, 1) := by decide +kernel
theorem pn_0 : plainName "jdk/internal/util/Preconditions" = true := by first | (simp [plainName, overriddenIn]; done) | decide +kernel
theorem pn_1 : plainName "java/lang/String" = true := by first | (simp [plainName, overriddenIn]; done) | decide +kernel
theorem pn_2 : plainName "java/lang/StringLatin1" = true := by first | (simp [plainName, overriddenIn]; done) | decide +kernel
theorem pn_3 : plainName "com/example/role_delegation/roledelegation/RevocationKindNamedPinLaw" = true := by first | (simp [plainName, overriddenIn]; done) | decide +kernel
theorem pn_4 : plainName "java/lang/StringUTF16" = true := by first | (simp [plainName, overriddenIn]; done) | decide +kernel
theorem pn_5 : plainName "com/example/role_delegation/roledelegation/RevocationKind" = true := by first | (simp [plainName, overriddenIn]; done) | decide +kernel
theorem pd_0 : parseMethodDescriptor "(IILjava/util/function/BiFunction;)I" = some ⟨[.int, .int, (.object "java/util/function/BiFunction")], some .int⟩ := by decide +kernel
theorem pd_1 : parseMethodDescriptor "(II)V" = some ⟨[.int, .int], none⟩ := by decide +kernel
theorem pd_2 : parseMethodDescriptor "()B" = some ⟨[], some .byte⟩ := by decide +kernel
theorem pd_3 : parseMethodDescriptor "()Z" = some ⟨[], some .boolean⟩ := by decide +kernel
theorem pd_4 : parseMethodDescriptor "([BI)C" = some ⟨[(.array .byte), .int], some .char⟩ := by decide +kernel
theorem pd_5 : parseMethodDescriptor "()I" = some ⟨[], some .int⟩ := by decide +kernel
theorem pd_6 : parseMethodDescriptor "(I)C" = some ⟨[.int], some .char⟩ := by decide +kernel
theorem pd_7 : parseMethodDescriptor "([CI[BII)I" = some ⟨[(.array .char), .int, (.array .byte), .int, .int], some .int⟩ := by decide +kernel
theorem pd_8 : parseMethodDescriptor "([CII)[B" = some ⟨[(.array .char), .int, .int], some (.array .byte)⟩ := by decide +kernel
theorem pd_9 : parseMethodDescriptor "([BI)B" = some ⟨[(.array .byte), .int], some .byte⟩ := by decide +kernel
theorem pd_10 : parseMethodDescriptor "([CIILjava/lang/Void;)V" = some ⟨[(.array .char), .int, .int, (.object "java/lang/Void")], none⟩ := by decide +kernel
theorem pd_11 : parseMethodDescriptor "(Ljava/lang/String;IIC)C" = some ⟨[(.object "java/lang/String"), .int, .int, .char], some .char⟩ := by decide +kernel
theorem pd_12 : parseMethodDescriptor "([C)V" = some ⟨[(.array .char)], none⟩ := by decide +kernel
theorem pd_13 : parseMethodDescriptor "(C)Z" = some ⟨[.char], some .boolean⟩ := by decide +kernel
theorem pd_14 : parseMethodDescriptor "(C)[B" = some ⟨[.char], some (.array .byte)⟩ := by decide +kernel
theorem pd_15 : parseMethodDescriptor "([BB)V" = some ⟨[(.array .byte), .byte], none⟩ := by decide +kernel
theorem pd_16 : parseMethodDescriptor "([B[B)Z" = some ⟨[(.array .byte), (.array .byte)], some .boolean⟩ := by decide +kernel
theorem pd_17 : parseMethodDescriptor "()[Lcom/example/role_delegation/roledelegation/RevocationKind;" = some ⟨[], some (.array (.object "com/example/role_delegation/roledelegation/RevocationKind"))⟩ := by decide +kernel
theorem pd_18 : parseMethodDescriptor "(Ljava/lang/Object;)Z" = some ⟨[(.object "java/lang/Object")], some .boolean⟩ := by decide +kernel
theorem pd_19 : parseMethodDescriptor "(Ljava/lang/String;IC)Ljava/lang/String;" = some ⟨[(.object "java/lang/String"), .int, .char], some (.object "java/lang/String")⟩ := by decide +kernel
theorem pd_20 : parseMethodDescriptor "(Ljava/lang/String;)Lcom/example/role_delegation/roledelegation/RevocationKind;" = some ⟨[(.object "java/lang/String")], some (.object "com/example/role_delegation/roledelegation/RevocationKind")⟩ := by decide +kernel
theorem pd_21 : parseMethodDescriptor "(C)Ljava/lang/String;" = some ⟨[.char], some (.object "java/lang/String")⟩ := by decide +kernel
theorem ef_rmPC (m : MethodId) (x0 : Int32) (x1 : Int32) (x2 : Value) (hx2 : x2.isRef = true) : entryFrame m #[(.int x0), (.int x1), x2] 3 = mkF m 0 #[.val (.int x0), .val (.int x1), .val x2] [] := by (cases x2 <;> first | (simp [Value.isRef] at hx2; done) | skip) <;> first | (simp [entryFrame, mkF, argsToLocals, Value.category]; done) | rfl
theorem ef_rmCI (m : MethodId) (x0 : Int32) (x1 : Int32) : entryFrame m #[(.int x0), (.int x1)] 2 = mkF m 0 #[.val (.int x0), .val (.int x1)] [] := by first | (simp [entryFrame, mkF, argsToLocals, Value.category]; done) | rfl
theorem ef_rmLC (m : MethodId) (x0 : Addr) (x1 : Int32) : entryFrame m #[(.ref x0), (.int x1)] 2 = mkF m 0 #[.val (.ref x0), .val (.int x1)] [] := by first | (simp [entryFrame, mkF, argsToLocals, Value.category]; done) | rfl
theorem ef_rmCo (m : MethodId) (x0 : Addr) : entryFrame m #[(.ref x0)] 1 = mkF m 0 #[.val (.ref x0)] [] := by first | (simp [entryFrame, mkF, argsToLocals, Value.category]; done) | rfl
theorem ef_rmIL (m : MethodId) (x0 : Addr) : entryFrame m #[(.ref x0)] 1 = mkF m 0 #[.val (.ref x0)] [] := by first | (simp [entryFrame, mkF, argsToLocals, Value.category]; done) | rfl
theorem ef_rmLe (m : MethodId) (x0 : Addr) : entryFrame m #[(.ref x0)] 1 = mkF m 0 #[.val (.ref x0)] [] := by first | (simp [entryFrame, mkF, argsToLocals, Value.category]; done) | rfl
theorem ef_rmCA (m : MethodId) (x0 : Addr) (x1 : Int32) : entryFrame m #[(.ref x0), (.int x1)] 2 = mkF m 0 #[.val (.ref x0), .val (.int x1)] [] := by first | (simp [entryFrame, mkF, argsToLocals, Value.category]; done) | rfl
theorem ef_rmG (m : MethodId) (x0 : Addr) (x1 : Int32) (x2 : Int32) (x3 : Int32) : entryFrame m #[(.ref x0), (.int x1), (.int x2), (.int x3)] 4 = mkF m 0 #[.val (.ref x0), .val (.int x1), .val (.int x2), .val (.int x3)] [] := by first | (simp [entryFrame, mkF, argsToLocals, Value.category]; done) | rfl
theorem ef_rmK (m : MethodId) (x0 : Addr) (x1 : Int32) (x2 : Addr) (x3 : Int32) (x4 : Int32) : entryFrame m #[(.ref x0), (.int x1), (.ref x2), (.int x3), (.int x4)] 7 = mkF m 0 #[.val (.ref x0), .val (.int x1), .val (.ref x2), .val (.int x3), .val (.int x4), .unset, .unset] [] := by first | (simp [entryFrame, mkF, argsToLocals, Value.category]; done) | rfl
theorem ef_rmCp (m : MethodId) (x0 : Addr) (x1 : Int32) (x2 : Int32) : entryFrame m #[(.ref x0), (.int x1), (.int x2)] 6 = mkF m 0 #[.val (.ref x0), .val (.int x1), .val (.int x2), .unset, .unset, .unset] [] := by first | (simp [entryFrame, mkF, argsToLocals, Value.category]; done) | rfl
theorem ef_rmCd (m : MethodId) (x0 : Addr) (x1 : Int32) : entryFrame m #[(.ref x0), (.int x1)] 2 = mkF m 0 #[.val (.ref x0), .val (.int x1)] [] := by first | (simp [entryFrame, mkF, argsToLocals, Value.category]; done) | rfl
theorem ef_rmJ (m : MethodId) (x0 : Addr) (x1 : Addr) (x2 : Int32) (x3 : Int32) : entryFrame m #[(.ref x0), (.ref x1), (.int x2), (.int x3), .null] 6 = mkF m 0 #[.val (.ref x0), .val (.ref x1), .val (.int x2), .val (.int x3), .val .null, .unset] [] := by first | (simp [entryFrame, mkF, argsToLocals, Value.category]; done) | rfl
theorem ef_rmH (m : MethodId) (x0 : Addr) (x1 : Addr) : entryFrame m #[(.ref x0), (.ref x1)] 2 = mkF m 0 #[.val (.ref x0), .val (.ref x1)] [] := by first | (simp [entryFrame, mkF, argsToLocals, Value.category]; done) | rfl
theorem ef_rmJ0 (m : MethodId) (x0 : Addr) (x1 : Addr) (x2 : Int32) (x3 : Int32) : entryFrame m #[(.ref x0), (.ref x1), (.int x2), (.int x3), .null] 6 = mkF m 0 #[.val (.ref x0), .val (.ref x1), .val (.int x2), .val (.int x3), .val .null, .unset] [] := by first | (simp [entryFrame, mkF, argsToLocals, Value.category]; done) | rfl
theorem ef_rmH0 (m : MethodId) (x0 : Addr) (x1 : Addr) : entryFrame m #[(.ref x0), (.ref x1)] 2 = mkF m 0 #[.val (.ref x0), .val (.ref x1)] [] := by first | (simp [entryFrame, mkF, argsToLocals, Value.category]; done) | rfl
theorem ef_rmW9 (m : MethodId) (x0 : Addr) (x1 : Int32) (x2 : Int32) : entryFrame m #[(.ref x0), (.int x1), (.int x2)] 4 = mkF m 0 #[.val (.ref x0), .val (.int x1), .val (.int x2), .unset] [] := by first | (simp [entryFrame, mkF, argsToLocals, Value.category]; done) | rfl
theorem ef_rmW11 (m : MethodId) (x0 : Addr) (x1 : Int32) (x2 : Int32) : entryFrame m #[(.ref x0), (.int x1), (.int x2)] 4 = mkF m 0 #[.val (.ref x0), .val (.int x1), .val (.int x2), .unset] [] := by first | (simp [entryFrame, mkF, argsToLocals, Value.category]; done) | rfl
theorem ef_rmW8 (m : MethodId) (x0 : Addr) (x1 : Int32) (x2 : Int32) : entryFrame m #[(.ref x0), (.int x1), (.int x2)] 4 = mkF m 0 #[.val (.ref x0), .val (.int x1), .val (.int x2), .unset] [] := by first | (simp [entryFrame, mkF, argsToLocals, Value.category]; done) | rfl
theorem ef_rmW10 (m : MethodId) (x0 : Addr) (x1 : Int32) (x2 : Int32) : entryFrame m #[(.ref x0), (.int x1), (.int x2)] 4 = mkF m 0 #[.val (.ref x0), .val (.int x1), .val (.int x2), .unset] [] := by first | (simp [entryFrame, mkF, argsToLocals, Value.category]; done) | rfl
theorem ef_rmW12 (m : MethodId) (x0 : Addr) (x1 : Int32) (x2 : Int32) : entryFrame m #[(.ref x0), (.int x1), (.int x2)] 4 = mkF m 0 #[.val (.ref x0), .val (.int x1), .val (.int x2), .unset] [] := by first | (simp [entryFrame, mkF, argsToLocals, Value.category]; done) | rfl
theorem ef_rmCE (m : MethodId) (x0 : Int32) : entryFrame m #[(.int x0)] 1 = mkF m 0 #[.val (.int x0)] [] := by first | (simp [entryFrame, mkF, argsToLocals, Value.category]; done) | rfl
theorem ef_rmTC (m : MethodId) (x0 : Int32) : entryFrame m #[(.int x0)] 1 = mkF m 0 #[.val (.int x0)] [] := by first | (simp [entryFrame, mkF, argsToLocals, Value.category]; done) | rfl
theorem ef_rmBB (m : MethodId) (x0 : Addr) (x1 : Addr) (x2 : Int32) : entryFrame m #[(.ref x0), (.ref x1), (.int x2)] 3 = mkF m 0 #[.val (.ref x0), .val (.ref x1), .val (.int x2)] [] := by first | (simp [entryFrame, mkF, argsToLocals, Value.category]; done) | rfl
theorem ef_rmVO (m : MethodId) (x0 : Int32) : entryFrame m #[(.int x0)] 1 = mkF m 0 #[.val (.int x0)] [] := by first | (simp [entryFrame, mkF, argsToLocals, Value.category]; done) | rfl
theorem ef_rmSEX (m : MethodId) (x0 : Addr) (x1 : Addr) : entryFrame m #[(.ref x0), (.ref x1)] 3 = mkF m 0 #[.val (.ref x0), .val (.ref x1), .unset] [] := by first | (simp [entryFrame, mkF, argsToLocals, Value.category]; done) | rfl
theorem ef_rmSE9 (m : MethodId) (x0 : Addr) (x1 : Addr) : entryFrame m #[(.ref x0), (.ref x1)] 3 = mkF m 0 #[.val (.ref x0), .val (.ref x1), .unset] [] := by first | (simp [entryFrame, mkF, argsToLocals, Value.category]; done) | rfl
theorem ef_rmSE11 (m : MethodId) (x0 : Addr) (x1 : Addr) : entryFrame m #[(.ref x0), (.ref x1)] 3 = mkF m 0 #[.val (.ref x0), .val (.ref x1), .unset] [] := by first | (simp [entryFrame, mkF, argsToLocals, Value.category]; done) | rfl
theorem ef_rmEq9 (m : MethodId) (x0 : Addr) (x1 : Addr) : entryFrame m #[(.ref x0), (.ref x1)] 3 = mkF m 0 #[.val (.ref x0), .val (.ref x1), .unset] [] := by first | (simp [entryFrame, mkF, argsToLocals, Value.category]; done) | rfl
theorem ef_rmEq11 (m : MethodId) (x0 : Addr) (x1 : Addr) : entryFrame m #[(.ref x0), (.ref x1)] 3 = mkF m 0 #[.val (.ref x0), .val (.ref x1), .unset] [] := by first | (simp [entryFrame, mkF, argsToLocals, Value.category]; done) | rfl
theorem ef_rmEqX (m : MethodId) (x0 : Addr) (x1 : Addr) : entryFrame m #[(.ref x0), (.ref x1)] 3 = mkF m 0 #[.val (.ref x0), .val (.ref x1), .unset] [] := by first | (simp [entryFrame, mkF, argsToLocals, Value.category]; done) | rfl
theorem ef_rmEqN (m : MethodId) (x0 : Addr) : entryFrame m #[(.ref x0), .null] 3 = mkF m 0 #[.val (.ref x0), .val .null, .unset] [] := by first | (simp [entryFrame, mkF, argsToLocals, Value.category]; done) | rfl
theorem ef_rmVL (m : MethodId)  : entryFrame m #[] 0 = mkF m 0 #[] [] := by first | (simp [entryFrame, mkF, argsToLocals, Value.category]; done) | rfl
theorem ef_rmNN (m : MethodId)  : entryFrame m #[.null] 6 = mkF m 0 #[.val .null, .unset, .unset, .unset, .unset, .unset] [] := by first | (simp [entryFrame, mkF, argsToLocals, Value.category]; done) | rfl
theorem ef_rmNX (m : MethodId) (x0 : Addr) : entryFrame m #[(.ref x0)] 6 = mkF m 0 #[.val (.ref x0), .unset, .unset, .unset, .unset, .unset] [] := by first | (simp [entryFrame, mkF, argsToLocals, Value.category]; done) | rfl
theorem ef_rmN9T (m : MethodId) (x0 : Addr) : entryFrame m #[(.ref x0)] 6 = mkF m 0 #[.val (.ref x0), .unset, .unset, .unset, .unset, .unset] [] := by first | (simp [entryFrame, mkF, argsToLocals, Value.category]; done) | rfl
theorem ef_rmN9F (m : MethodId) (x0 : Addr) : entryFrame m #[(.ref x0)] 6 = mkF m 0 #[.val (.ref x0), .unset, .unset, .unset, .unset, .unset] [] := by first | (simp [entryFrame, mkF, argsToLocals, Value.category]; done) | rfl
theorem ef_rmN11T (m : MethodId) (x0 : Addr) : entryFrame m #[(.ref x0)] 6 = mkF m 0 #[.val (.ref x0), .unset, .unset, .unset, .unset, .unset] [] := by first | (simp [entryFrame, mkF, argsToLocals, Value.category]; done) | rfl
theorem ef_rmN11F (m : MethodId) (x0 : Addr) : entryFrame m #[(.ref x0)] 6 = mkF m 0 #[.val (.ref x0), .unset, .unset, .unset, .unset, .unset] [] := by first | (simp [entryFrame, mkF, argsToLocals, Value.category]; done) | rfl
theorem ef_rm0 (m : MethodId) (x0 : Int32) (x1 : Int32) (x2 : Int32) : entryFrame m #[(.int x0), (.int x1), (.int x2)] maxLocals = mkF m 0 #[.val (.int x0), .val (.int x1), .val (.int x2), .unset, .unset, .unset, .unset, .unset, .unset] [] := by first | (simp [entryFrame, mkF, argsToLocals, Value.category, maxLocals]; done) | rfl
def Qn (h0 : Heap) (n0 : Nat) (v : Option Value) (h : Heap) (L : List Loc) : Prop := v = none ∧ Fr n0 L ∧ h = h0
def Qr (r : Value) (h0 : Heap) (n0 : Nat) (v : Option Value) (h : Heap) (L : List Loc) : Prop := v = some r ∧ Fr n0 L ∧ h = h0
theorem own_eqI {args : Array Value} {s : State} {t : Term} {k : Int32} (h : (Jvm.Cond.eq t (.int k)).value args s none s [] = some true) : t.eval args s none [] s = some (.int k) := by
  simp only [Cond.value, Term.eval] at h
  cases ht : t.eval args s none [] s with
  | none => simp [ht] at h
  | some x => cases x <;> simp [ht] at h ⊢; exact h
theorem own_eqR {args : Array Value} {s : State} {t u : Term} {b : Addr} (h : (Jvm.Cond.eq t u).value args s none s [] = some true) (hu : u.eval args s none [] s = some (.ref b)) : t.eval args s none [] s = some (.ref b) := by
  simp only [Cond.value, hu] at h
  cases ht : t.eval args s none [] s with
  | none => simp [ht] at h
  | some x => cases x <;> simp [ht] at h ⊢; exact h
theorem own_arv {args : Array Value} {s : State} {t : Term} {a : Addr} {cl : Cell} {ty : FieldType} {z : Int32} (A : Arr s s.heap a cl ty) (ht : t.eval args s none [] s = some (.ref a)) (hl : (Term.length t).eval args s none [] s = some (.int z)) : cl.slots.size < 2 ^ 31 ∧ cl.slots.size.toInt32 = z := by
  obtain ⟨b, cell, e1, e2, h31, e3⟩ := Jvm.Lib.length_spec hl
  cases ht.symm.trans e1
  have e4 := A.fin (Vm.Alike.refl _)
  cases e4.symm.trans e2
  exact ⟨h31, (Value.int.inj e3).symm⟩
/-- an array of n places; place j holds g j -/
def Af (Z : State) (h : Heap) (a : Addr) (k : ClassId) (ty : FieldType) (n : Int32) (g : Nat → Value) : Prop := ∃ c : Cell, Arr Z h a c ty ∧ c.cls = k ∧ c.slots.size = n.toNatClampNeg ∧ ¬ n < 0 ∧ ∀ j, j < n.toNatClampNeg → c.slots[j]? = some (g j)
theorem Af.lt {Z : State} {h : Heap} {a : Addr} {k : ClassId} {ty : FieldType} {n : Int32} {g : Nat → Value} (F : Af Z h a k ty n g) : a < h.size := by obtain ⟨c, A, -⟩ := F; exact A.lt
theorem Af.ext {Z : State} {h h' : Heap} {a : Addr} {k : ClassId} {ty : FieldType} {n : Int32} {g : Nat → Value} (F : Af Z h a k ty n g) (E : Ext h h') : Af Z h' a k ty n g := by obtain ⟨c, A, r⟩ := F; exact ⟨c, A.ext E, r⟩
theorem Af.other {Z : State} {h h' : Heap} {a b : Addr} {sl : Nat} {v : Value} {k : ClassId} {ty : FieldType} {n : Int32} {g : Nat → Value} (F : Af Z h b k ty n g) (W : Wr h h' a sl v) (q : b ≠ a) : Af Z h' b k ty n g := by obtain ⟨c, A, r⟩ := F; exact ⟨c, A.other W q, r⟩
theorem Af.keep {Z : State} {h h' : Heap} {a : Addr} {ws : List Addr} {k : ClassId} {ty : FieldType} {n : Int32} {g : Nat → Value} (F : Af Z h a k ty n g) (K : Keep h h' ws) (q : a ∉ ws) : Af Z h' a k ty n g := by obtain ⟨c, A, r⟩ := F; exact ⟨c, ⟨K.2.1 a c A.1 q, A.2⟩, r⟩
theorem Af.of {Z : State} {h : Heap} {a : Addr} {k : ClassId} {ty : FieldType} {n : Int32} {vs : List Value} {d : Value} (F : Arv Z h a k ty n vs d) : Af Z h a k ty n (fun j => vs.getD j d) := by
  obtain ⟨c, A, q, S, M, H, -⟩ := F
  exact ⟨c, A, q, S, M, fun j hj => H j (by rw [S]; exact hj)⟩
theorem Af.set {Z : State} {h h' : Heap} {a : Addr} {c : Cell} {k : ClassId} {ty : FieldType} {n j : Int32} {v : Value} {g : Nat → Value} (A : Arr Z h a c ty) (q : c.cls = k) (S : c.slots.size = n.toNatClampNeg) (M : ¬ n < 0) (H : ∀ j, j < n.toNatClampNeg → c.slots[j]? = some (g j)) (W : Wr h h' a j.toNatClampNeg v) (hj : ¬ (j < 0 ∨ c.slots.size ≤ j.toNatClampNeg)) : Af Z h' a k ty n (fun i => if i = j.toNatClampNeg then v else g i) := by
  refine ⟨_, A.same W, q, (sz_set _ _ _).trans S, M, fun i hi => ?_⟩
  by_cases e : i = j.toNatClampNeg
  · subst e
    have hl : j.toNatClampNeg < c.slots.size := Nat.lt_of_not_le fun y => hj (Or.inr y)
    simp [Cell.setSlot, hl]
  · simp only [e, if_false]
    rw [← H i hi]
    simp [Cell.setSlot, Array.getElem?_setIfInBounds, Ne.symm e]
theorem Af.fn {Z : State} {h : Heap} {a : Addr} {k : ClassId} {ty : FieldType} {n : Int32} {g g' : Nat → Value} (F : Af Z h a k ty n g) (e : ∀ j, j < n.toNatClampNeg → g j = g' j) : Af Z h a k ty n g' := by
  obtain ⟨c, A, q, S, M, H⟩ := F
  exact ⟨c, A, q, S, M, fun j hj => (H j hj).trans (congrArg some (e j hj))⟩
def own_R (c : Int32) : Prop := 0 ≤ c.toInt ∧ c.toInt ≤ 65535
def own_L (c : Int32) : Prop := 0 ≤ c.toInt ∧ c.toInt ≤ 255
instance own_Ld (c : Int32) : Decidable (own_L c) := by unfold own_L; infer_instance
theorem own_L.R {c : Int32} (h : own_L c) : own_R c := ⟨h.1, by have := h.2; omega⟩
theorem own_L.l {c : Int32} (h : own_L c) : ¬ (255 : Int32) < c := by
  have := h.2
  simp only [Int32.lt_iff_toInt_lt, Int32.reduceToInt]; omega
def own_by (c : Int32) : Int32 := c.toInt8.toInt32
theorem own_i8i (y : Int32) : y.toInt8.toInt32.toInt8.toInt32 = y.toInt8.toInt32 := by
  have a := c_i2b y
  have b := c_i2b y.toInt8.toInt32
  rw [← Int32.toInt_inj]; omega
theorem own_byN (c : Int32) : nar .byte (own_by c) = own_by c := own_i8i c
theorem own_byF (c : Int32) : fits .byte (.int (own_by c)) = true := fits_nar_byte c
theorem own_chL {c : Int32} (h : own_L c) : (own_by c &&& (255 : Int32)).toUInt32.toUInt16.toUInt32.toInt32 = c := by
  have a := c_i2b c
  have b := c_mask (own_by c) 255 8 (by decide) (by decide)
  have d := c_i2c (own_by c &&& 255)
  have e : (own_by c).toInt = c.toInt8.toInt32.toInt := rfl
  obtain ⟨q1, q2⟩ := h
  rw [← Int32.toInt_inj]; omega
theorem own_byI {c d : Int32} (h : own_L c) (h' : own_L d) (e : own_by c = own_by d) : c = d := by
  rw [← own_chL h, ← own_chL h', e]
theorem own_nC {c : Int32} (h : own_R c) : nar .char c = c := by
  have a := c_i2c c
  obtain ⟨q1, q2⟩ := h
  show c.toUInt32.toUInt16.toUInt32.toInt32 = c
  rw [← Int32.toInt_inj]; omega
theorem own_fC {c : Int32} (h : own_R c) : fits .char (.int c) = true := by rw [← own_nC h]; exact fits_nar_char _
theorem own_sh0 (n : Int32) : (n >>> ((0 : Int32) &&& 31)) = n := by rw [show ((0 : Int32) &&& 31) = 0 from by decide]; simp
def own_gv (bf : Nat → Int32) (m i pp rr : Int32) : Int32 := if i = pp then rr else if i < m then bf i.toNatClampNeg else rr
def own_gw (bf : Nat → Int32) (m pp rr : Int32) (j : Nat) : Int32 := own_gv bf m (Int32.ofNat j) pp rr
theorem own_gvL {bf : Nat → Int32} {m i pp rr c : Int32} (e : c = own_gv bf m i pp rr) (hB : ∀ j, own_L (bf j)) (hr : own_L rr) : own_L c := by
  subst e; unfold own_gv
  split
  · exact hr
  · split
    · exact hB _
    · exact hr
def own_t (l : List Int32) (j : Nat) : Int32 := l.getD j 0
theorem own_tv : ∀ (l : List Int32), (∀ x ∈ l, own_by x = x) → ∀ j : Nat, (l.map Value.int).getD j (.int 0) = .int (own_by (own_t l j))
  | [], _, j => by have q : own_by 0 = 0 := by decide
                   simp [own_t, q]
  | x :: l, h, 0 => by simp [own_t, h x (by simp)]
  | x :: l, h, j + 1 => by
    have q := own_tv l (fun y hy => h y (List.mem_cons_of_mem _ hy)) j
    simpa [own_t] using q
theorem own_tL : ∀ (l : List Int32), (∀ x ∈ l, own_L x) → ∀ j : Nat, own_L (own_t l j)
  | [], _, j => by simp [own_t]; decide
  | x :: l, h, 0 => by simpa [own_t] using h x (by simp)
  | x :: l, h, j + 1 => by
    have q := own_tL l (fun y hy => h y (List.mem_cons_of_mem _ hy)) j
    simpa [own_t] using q
def own_N (n : Int32) : Prop := 0 < n.toInt ∧ n.toInt ≤ 12
instance own_Nd (n : Int32) : Decidable (own_N n) := by unfold own_N; infer_instance
theorem own_nlt {n : Int32} : ¬ n < n := by rw [Int32.lt_iff_toInt_lt]; omega
theorem own_nn {n : Int32} (h : own_N n) : ¬ n < 0 := by have := h.1; simp only [Int32.lt_iff_toInt_lt, Int32.reduceToInt]; omega
theorem own_n12 {n : Int32} (h : own_N n) : n.toNatClampNeg ≤ 12 := by have := nat_of (own_nn h); have := h.2; omega
theorem own_n0 {n : Int32} (h : own_N n) : ¬ n = (0 : Int32) := by rintro rfl; exact absurd h.1 (by decide)
theorem own_nof {n : Int32} (h : own_N n) : Int32.ofNat n.toNatClampNeg = n := (Jvm.RoadKit.back32 (own_nn h)).1
theorem own_sub0 (n : Int32) : n - n = (0 : Int32) := Int32.sub_self n
theorem own_isucc {k : Nat} : Int32.ofNat (k + 1) = Int32.ofNat k + (1 : Int32) := Int32.ofNat_add k 1
theorem own_ofn : ∀ j : Nat, j < 13 → (Int32.ofNat j).toInt = (j : Int) ∧ (Int32.ofNat j).toNatClampNeg = j := by decide
theorem own_ik {n ik : Int32} {k : Nat} (hn : own_N n) (e : ik = Int32.ofNat k) (hk : k + 1 ≤ n.toNatClampNeg) : (¬ ik < (0 : Int32) ∧ ik < n) ∧ ik.toNatClampNeg = k := by
  have a := own_n12 hn
  have b := nat_of (own_nn hn)
  obtain ⟨o1, o2⟩ := own_ofn k (by omega)
  subst e
  simp only [Int32.lt_iff_toInt_lt, Int32.reduceToInt]
  refine ⟨⟨?_, ?_⟩, o2⟩ <;> omega
theorem own_hstep {g1 : Nat → Value} {tf : Nat → Int32} {k : Nat} {ik : Int32} (e : ik.toNatClampNeg = k) (h : ∀ j, j < k → g1 j = .int (own_by (tf j))) : ∀ j, j < k + 1 → (fun i => if i = (ik).toNatClampNeg then Value.int (own_by (tf (ik).toNatClampNeg)) else (g1) i) j = .int (own_by (tf j)) := by
  intro j hj
  by_cases q : j = ik.toNatClampNeg
  · subst q; simp
  · simp only [q, if_false]; exact h j (by omega)
def own_eqf (n : Nat) (f g : Nat → Int32) : Prop := ∀ j, j < n → own_by (f j) = own_by (g j)
instance own_eqfd (n : Nat) (f g : Nat → Int32) : Decidable (own_eqf n f g) := by unfold own_eqf; infer_instance
theorem own_Pt {l : List Int32} {n : Nat} {m pp rr : Int32} (hn : n < 13) (hm : m.toInt = (n : Int)) (h0 : 0 ≤ pp.toInt) (h : pp = m ∨ rr = own_t l pp.toNatClampNeg) : own_eqf n (own_t l) (own_gw (own_t l) m pp rr) := by
  intro j hj
  obtain ⟨o1, o2⟩ := own_ofn j (by omega)
  unfold own_gw own_gv
  by_cases e : Int32.ofNat j = pp
  · rw [if_pos e]
    rcases h with h | h
    · rw [← e, ← Int32.toInt_inj] at h; omega
    · rw [h, ← e, o2]
  · rw [if_neg e, if_pos (by rw [Int32.lt_iff_toInt_lt]; omega), o2]
theorem own_Pf {l : List Int32} {n : Nat} {m pp rr : Int32} (hn : n < 13) (hm : m.toInt = (n : Int)) (h0 : 0 ≤ pp.toInt) (h1 : pp.toInt ≤ (n : Int)) (hl : ∀ x ∈ l, own_L x) (hr : own_L rr) (e1 : ¬ pp = m) (e2 : ¬ rr = own_t l pp.toNatClampNeg) : ¬ own_eqf n (own_t l) (own_gw (own_t l) m pp rr) := by
  intro h
  have z : ¬ pp < 0 := by simp only [Int32.lt_iff_toInt_lt, Int32.reduceToInt]; omega
  have q := nat_of z
  have e3 : pp.toInt ≠ m.toInt := fun w => e1 (Int32.toInt_inj.mp w)
  have hj := h pp.toNatClampNeg (by omega)
  have o : Int32.ofNat pp.toNatClampNeg = pp := (Jvm.RoadKit.back32 z).1
  have g : own_gw (own_t l) m pp rr pp.toNatClampNeg = rr := by unfold own_gw own_gv; rw [if_pos o]
  rw [g] at hj
  exact e2 (own_byI hr (own_tL l hl _) hj.symm)
theorem own_rL {r x : Int32} (e : r = (x &&& (255 : Int32)).toUInt32.toUInt16.toUInt32.toInt32) : own_L r := by
  subst e
  have a := c_and x 255 (by decide)
  have b := c_i2c (x &&& 255)
  simp only [Int32.reduceToInt] at a
  unfold own_L; omega
theorem own_pos {x q z y : Int32} {d : Int} (e1 : q = x &&& (2147483647 : Int32)) (e2 : z = q % y) (hy : y.toInt = d) (hd : 0 < d) : 0 ≤ z.toInt ∧ z.toInt < d := by
  subst e1 e2
  have a1 := (c_and x 2147483647 (by decide)).1
  have a2 := (c_irem (x &&& 2147483647) y d hy).1 a1
  rw [a2]
  exact ⟨Int.emod_nonneg _ (by omega), Int.emod_lt_of_pos _ hd⟩
theorem own_posI {z m : Int32} {n : Int} (h0 : 0 ≤ z.toInt) (h1 : z.toInt ≤ n) (hm : m.toInt = n) (e : ¬ z = m) : ¬ z < (0 : Int32) ∧ z < m := by
  have e3 : z.toInt ≠ m.toInt := fun w => e (Int32.toInt_inj.mp w)
  simp only [Int32.lt_iff_toInt_lt, Int32.reduceToInt]; omega
def t_D : List Int32 := [(100 : Int32), (101 : Int32), (112 : Int32), (101 : Int32), (110 : Int32), (100 : Int32), (101 : Int32), (110 : Int32), (116 : Int32)]
theorem own_tvD : ∀ j, j < (9 : Int32).toNatClampNeg → ([(.int 100), (.int 101), (.int 112), (.int 101), (.int 110), (.int 100), (.int 101), (.int 110), (.int 116)] : List Value).getD j (.int 0) = .int (own_by (own_t t_D j)) := fun j _ => own_tv t_D (by decide) j
theorem own_tlD : ∀ x ∈ t_D, own_L x := by decide
def t_I : List Int32 := [(105 : Int32), (110 : Int32), (100 : Int32), (101 : Int32), (112 : Int32), (101 : Int32), (110 : Int32), (100 : Int32), (101 : Int32), (110 : Int32), (116 : Int32)]
theorem own_tvI : ∀ j, j < (11 : Int32).toNatClampNeg → ([(.int 105), (.int 110), (.int 100), (.int 101), (.int 112), (.int 101), (.int 110), (.int 100), (.int 101), (.int 110), (.int 116)] : List Value).getD j (.int 0) = .int (own_by (own_t t_I j)) := fun j _ => own_tv t_I (by decide) j
theorem own_tlI : ∀ x ∈ t_I, own_L x := by decide
def t_N : List Int32 := [(110 : Int32), (100 : Int32), (101 : Int32), (112 : Int32), (101 : Int32), (110 : Int32), (100 : Int32), (101 : Int32), (110 : Int32), (116 : Int32)]
theorem own_tvN : ∀ j, j < (10 : Int32).toNatClampNeg → ([(.int 110), (.int 100), (.int 101), (.int 112), (.int 101), (.int 110), (.int 100), (.int 101), (.int 110), (.int 116)] : List Value).getD j (.int 0) = .int (own_by (own_t t_N j)) := fun j _ => own_tv t_N (by decide) j
theorem own_tlN : ∀ x ∈ t_N, own_L x := by decide
theorem own_cT1 (c0 : Int32) (cf : Nat → Int32) (e0 : c0 = cf 0) : ∀ j, j < (1 : Int32).toNatClampNeg → ([(.int c0)] : List Value).getD j (.int 0) = .int (cf j) := by
  intro j hj
  have hj' : j < 1 := hj
  match j, hj' with
  | 0, _ => exact congrArg Value.int e0
theorem own_cW1 (c0 : Int32) (cf : Nat → Int32) (e0 : c0 = cf 0) : ∀ j, j < (1 : Int32).toNatClampNeg → ([(.int (own_by c0))] : List Value).getD j (.int 0) = .int (own_by (cf j)) := by
  intro j hj
  have hj' : j < 1 := hj
  match j, hj' with
  | 0, _ => exact congrArg (fun q => Value.int (own_by q)) e0
theorem own_cT8 (c0 c1 c2 c3 c4 c5 c6 c7 : Int32) (cf : Nat → Int32) (e0 : c0 = cf 0) (e1 : c1 = cf 1) (e2 : c2 = cf 2) (e3 : c3 = cf 3) (e4 : c4 = cf 4) (e5 : c5 = cf 5) (e6 : c6 = cf 6) (e7 : c7 = cf 7) : ∀ j, j < (8 : Int32).toNatClampNeg → ([(.int c0), (.int c1), (.int c2), (.int c3), (.int c4), (.int c5), (.int c6), (.int c7)] : List Value).getD j (.int 0) = .int (cf j) := by
  intro j hj
  have hj' : j < 8 := hj
  match j, hj' with
  | 0, _ => exact congrArg Value.int e0
  | 1, _ => exact congrArg Value.int e1
  | 2, _ => exact congrArg Value.int e2
  | 3, _ => exact congrArg Value.int e3
  | 4, _ => exact congrArg Value.int e4
  | 5, _ => exact congrArg Value.int e5
  | 6, _ => exact congrArg Value.int e6
  | 7, _ => exact congrArg Value.int e7
theorem own_cT9 (c0 c1 c2 c3 c4 c5 c6 c7 c8 : Int32) (cf : Nat → Int32) (e0 : c0 = cf 0) (e1 : c1 = cf 1) (e2 : c2 = cf 2) (e3 : c3 = cf 3) (e4 : c4 = cf 4) (e5 : c5 = cf 5) (e6 : c6 = cf 6) (e7 : c7 = cf 7) (e8 : c8 = cf 8) : ∀ j, j < (9 : Int32).toNatClampNeg → ([(.int c0), (.int c1), (.int c2), (.int c3), (.int c4), (.int c5), (.int c6), (.int c7), (.int c8)] : List Value).getD j (.int 0) = .int (cf j) := by
  intro j hj
  have hj' : j < 9 := hj
  match j, hj' with
  | 0, _ => exact congrArg Value.int e0
  | 1, _ => exact congrArg Value.int e1
  | 2, _ => exact congrArg Value.int e2
  | 3, _ => exact congrArg Value.int e3
  | 4, _ => exact congrArg Value.int e4
  | 5, _ => exact congrArg Value.int e5
  | 6, _ => exact congrArg Value.int e6
  | 7, _ => exact congrArg Value.int e7
  | 8, _ => exact congrArg Value.int e8
theorem own_cT10 (c0 c1 c2 c3 c4 c5 c6 c7 c8 c9 : Int32) (cf : Nat → Int32) (e0 : c0 = cf 0) (e1 : c1 = cf 1) (e2 : c2 = cf 2) (e3 : c3 = cf 3) (e4 : c4 = cf 4) (e5 : c5 = cf 5) (e6 : c6 = cf 6) (e7 : c7 = cf 7) (e8 : c8 = cf 8) (e9 : c9 = cf 9) : ∀ j, j < (10 : Int32).toNatClampNeg → ([(.int c0), (.int c1), (.int c2), (.int c3), (.int c4), (.int c5), (.int c6), (.int c7), (.int c8), (.int c9)] : List Value).getD j (.int 0) = .int (cf j) := by
  intro j hj
  have hj' : j < 10 := hj
  match j, hj' with
  | 0, _ => exact congrArg Value.int e0
  | 1, _ => exact congrArg Value.int e1
  | 2, _ => exact congrArg Value.int e2
  | 3, _ => exact congrArg Value.int e3
  | 4, _ => exact congrArg Value.int e4
  | 5, _ => exact congrArg Value.int e5
  | 6, _ => exact congrArg Value.int e6
  | 7, _ => exact congrArg Value.int e7
  | 8, _ => exact congrArg Value.int e8
  | 9, _ => exact congrArg Value.int e9
theorem own_cT11 (c0 c1 c2 c3 c4 c5 c6 c7 c8 c9 c10 : Int32) (cf : Nat → Int32) (e0 : c0 = cf 0) (e1 : c1 = cf 1) (e2 : c2 = cf 2) (e3 : c3 = cf 3) (e4 : c4 = cf 4) (e5 : c5 = cf 5) (e6 : c6 = cf 6) (e7 : c7 = cf 7) (e8 : c8 = cf 8) (e9 : c9 = cf 9) (e10 : c10 = cf 10) : ∀ j, j < (11 : Int32).toNatClampNeg → ([(.int c0), (.int c1), (.int c2), (.int c3), (.int c4), (.int c5), (.int c6), (.int c7), (.int c8), (.int c9), (.int c10)] : List Value).getD j (.int 0) = .int (cf j) := by
  intro j hj
  have hj' : j < 11 := hj
  match j, hj' with
  | 0, _ => exact congrArg Value.int e0
  | 1, _ => exact congrArg Value.int e1
  | 2, _ => exact congrArg Value.int e2
  | 3, _ => exact congrArg Value.int e3
  | 4, _ => exact congrArg Value.int e4
  | 5, _ => exact congrArg Value.int e5
  | 6, _ => exact congrArg Value.int e6
  | 7, _ => exact congrArg Value.int e7
  | 8, _ => exact congrArg Value.int e8
  | 9, _ => exact congrArg Value.int e9
  | 10, _ => exact congrArg Value.int e10
theorem own_cT12 (c0 c1 c2 c3 c4 c5 c6 c7 c8 c9 c10 c11 : Int32) (cf : Nat → Int32) (e0 : c0 = cf 0) (e1 : c1 = cf 1) (e2 : c2 = cf 2) (e3 : c3 = cf 3) (e4 : c4 = cf 4) (e5 : c5 = cf 5) (e6 : c6 = cf 6) (e7 : c7 = cf 7) (e8 : c8 = cf 8) (e9 : c9 = cf 9) (e10 : c10 = cf 10) (e11 : c11 = cf 11) : ∀ j, j < (12 : Int32).toNatClampNeg → ([(.int c0), (.int c1), (.int c2), (.int c3), (.int c4), (.int c5), (.int c6), (.int c7), (.int c8), (.int c9), (.int c10), (.int c11)] : List Value).getD j (.int 0) = .int (cf j) := by
  intro j hj
  have hj' : j < 12 := hj
  match j, hj' with
  | 0, _ => exact congrArg Value.int e0
  | 1, _ => exact congrArg Value.int e1
  | 2, _ => exact congrArg Value.int e2
  | 3, _ => exact congrArg Value.int e3
  | 4, _ => exact congrArg Value.int e4
  | 5, _ => exact congrArg Value.int e5
  | 6, _ => exact congrArg Value.int e6
  | 7, _ => exact congrArg Value.int e7
  | 8, _ => exact congrArg Value.int e8
  | 9, _ => exact congrArg Value.int e9
  | 10, _ => exact congrArg Value.int e10
  | 11, _ => exact congrArg Value.int e11
theorem own_all9 {f g : Nat → Int32} (e0 : own_by (f 0) = own_by (g 0)) (e1 : own_by (f 1) = own_by (g 1)) (e2 : own_by (f 2) = own_by (g 2)) (e3 : own_by (f 3) = own_by (g 3)) (e4 : own_by (f 4) = own_by (g 4)) (e5 : own_by (f 5) = own_by (g 5)) (e6 : own_by (f 6) = own_by (g 6)) (e7 : own_by (f 7) = own_by (g 7)) (e8 : own_by (f 8) = own_by (g 8)) : own_eqf 9 f g := by
  intro j hj
  match j, hj with
  | 0, _ => exact e0
  | 1, _ => exact e1
  | 2, _ => exact e2
  | 3, _ => exact e3
  | 4, _ => exact e4
  | 5, _ => exact e5
  | 6, _ => exact e6
  | 7, _ => exact e7
  | 8, _ => exact e8
theorem own_all11 {f g : Nat → Int32} (e0 : own_by (f 0) = own_by (g 0)) (e1 : own_by (f 1) = own_by (g 1)) (e2 : own_by (f 2) = own_by (g 2)) (e3 : own_by (f 3) = own_by (g 3)) (e4 : own_by (f 4) = own_by (g 4)) (e5 : own_by (f 5) = own_by (g 5)) (e6 : own_by (f 6) = own_by (g 6)) (e7 : own_by (f 7) = own_by (g 7)) (e8 : own_by (f 8) = own_by (g 8)) (e9 : own_by (f 9) = own_by (g 9)) (e10 : own_by (f 10) = own_by (g 10)) : own_eqf 11 f g := by
  intro j hj
  match j, hj with
  | 0, _ => exact e0
  | 1, _ => exact e1
  | 2, _ => exact e2
  | 3, _ => exact e3
  | 4, _ => exact e4
  | 5, _ => exact e5
  | 6, _ => exact e6
  | 7, _ => exact e7
  | 8, _ => exact e8
  | 9, _ => exact e9
  | 10, _ => exact e10
def Wd (Z : State) (h : Heap) (d w b : Addr) (k : ClassId) (n : Int32) (l : List Int32) : Prop := Exa Z h w "java/lang/String" ∧ Fld Z h d "com/example/role_delegation/roledelegation/RevocationKind" "word" "Ljava/lang/String;" (.ref w) ∧ Fld Z h w "java/lang/String" "value" "[B" (.ref b) ∧ Fld Z h w "java/lang/String" "coder" "B" (.int 0) ∧ Af Z h b k .byte n (fun j => .int (own_by (own_t l j)))
theorem Wd.ext {Z : State} {h h' : Heap} {d w b : Addr} {k : ClassId} {n : Int32} {l : List Int32} (X : Wd Z h d w b k n l) (E : Ext h h') : Wd Z h' d w b k n l := ⟨X.1.ext E, X.2.1.ext E, X.2.2.1.ext E, X.2.2.2.1.ext E, X.2.2.2.2.ext E⟩
theorem own_fldne {Z : State} {h : Heap} {a b : Addr} {O n d : String} {v w : Value} (F : Fld Z h a O n d v) (G : Fld Z h b O n d w) (hne : v ≠ w) : a ≠ b := by
  rintro rfl
  obtain ⟨c1, cf1, kf1, i1, f1, g1, g2, g3, g4, g5, g6, g7⟩ := F
  obtain ⟨c2, cf2, kf2, i2, f2, v1, v2, v3, v4, v5, v6, v7⟩ := G
  cases g1.symm.trans v1
  cases g2.symm.trans v2
  first | exact hne (Option.some.inj (g7.symm.trans v7)) | (simp_all)
theorem own_arvne {Z : State} {h : Heap} {a b : Addr} {k : ClassId} {z : Int32} {vs : List Value} {d : Value} {a0 : Array Value} (wi : (Cond.instantiable "java/lang/String" 4).before a0 Z = true) (A : Arv Z h b k .byte z vs d) (E : Exa Z h a "java/lang/String") : a ≠ b := by
  rintro rfl
  obtain ⟨c, ⟨g1, ⟨-, k1, hk1, comp, hkind⟩, -⟩, -⟩ := A
  obtain ⟨cell, k2, e1, e2, e3, -⟩ := E
  obtain ⟨cI, kI, hfI, hkI, hkindI, -⟩ := Cond.instantiable_spec wi
  cases g1.symm.trans e1
  cases e2.symm.trans hfI
  cases hk1.symm.trans hkI
  rw [hkindI] at hkind; cases hkind
def Qb (Z : State) (z : Int32) (vs : List Value) (h0 : Heap) (n0 : Nat) (v : Option Value) (h : Heap) (L : List Loc) : Prop := ∃ b kb, v = some (.ref b) ∧ Fr n0 L ∧ Keep h0 h [] ∧ h0.size ≤ b ∧ n0 ≤ b ∧ Arv Z h b kb .byte z vs (.int 0)
theorem own_backC {p : Program} {l : Launch} {e : Env} {R : Room} {s Z : State} {vm0 : Vm} {below : List Frame} {args a0 : Array Value} {EL : List (String × Nat)} {h : Heap} {y : MethodName} {bytes : ByteArray} {maxL : Nat} {ret : Option FieldType} {rm : Room} {len W : Nat} {as' : Array Value} {Qv : Option Value → Heap → List Loc → Prop}
    (hM : MetFree l y (head1 [Cond.code y bytes maxL ret] rm) (fun a U => a = as' ∧ Z.Warmed39 U.vm ∧ U.heap = h ∧ CHv Z EL U.vm h) (fun _ _ _ _ _ => True) (fun _ U o U' => ∃ v L, o = .returned v ∧ Qv v U'.heap L ∧ ReturnedEndW U o U' L rm.cells rm.slots))
    (hZ : Z.Warmed39 vm0) (wc : (Cond.code y bytes maxL ret).before a0 Z = true) (wz : (Cond.initialized y.cls).before a0 Z = true) (hf : rm.frames + 1 ≤ R.frames) (hl : W + (maxL + 11) + rm.locals ≤ R.locals) (hEL : EW Z a0 EL) (H : CHv Z EL vm0 h) :
    BackS l R p e below (s.setVm vm0) args y len W (fun A a => a = as' ∧ A.U.heap = h ∧ A.cells + rm.cells ≤ R.cells ∧ A.slots + rm.slots ≤ R.slots) (fun A _ v B => ∃ L, Qv v B.U.heap L ∧ B.locs = A.locs ++ L ∧ B.cells = A.cells + rm.cells ∧ B.slots = A.slots + rm.slots) := by
  refine BackS.of_freeW (bytes := bytes) (maxL := maxL) (ret := ret) (E := fun _ _ o t L k n => k = rm.cells ∧ n = rm.slots ∧ ∃ v, o = .returned v ∧ Qv v t.heap L) hM hf hl ?_ ?_ (fun _ _ _ _ _ _ _ _ _ => trivial) ?_ ?_
  · intro m meth c A a Y hp
    have hU : Z.Warmed39 A.U.vm := wtrans (s := s.setVm vm0) hZ Y.warmed
    refine ⟨?_, mv hU wc, mv hU wz, hp.2.2.1, hp.2.2.2⟩
    show (Cond.and _ .tt).before a A.U = true
    rw [Cond.before_and, mv hU wc]; rfl
  · intro m meth c A a g mk Y hp
    exact ⟨hp.1, wtrans (s := s.setVm vm0) hZ Y.warmed, hp.2.1, (CHv.at Y hZ hEL H).1⟩
  · intro a first o t hq
    obtain ⟨v, L, h1, h2, h3⟩ := hq
    exact ⟨L, _, _, h3, rfl, rfl, v, h1, h2⟩
  · intro m meth c A a g mk v t L k n Y hp hq hr he
    obtain ⟨e1, e2, v', e3, e4⟩ := he
    cases e3
    subst e1 e2
    exact ⟨L, e4, rfl, rfl, rfl⟩
set_option maxRecDepth 65536 in
set_option maxHeartbeats 40000000 in
theorem rmPC (l : Launch) (Z : State) (a0 : Array Value) (hw : ∀ d ∈ tables_1, d.before a0 Z = true) (ws : List Jvm.Cond) (i_ n_ : Int32) (fo : Value) (h0 : Heap) (n0 : Nat) (Z0 : n0 ≤ h0.size) (hfo : fo.isRef = true) (hi : ¬ i_ < (0 : Int32) ∧ i_ < n_) :
    MetFree l (⟨"jdk/internal/util/Preconditions", "checkIndex", "(IILjava/util/function/BiFunction;)I"⟩ : MethodName) (head1 (Jvm.Cond.code (⟨"jdk/internal/util/Preconditions", "checkIndex", "(IILjava/util/function/BiFunction;)I"⟩ : MethodName) jdk_41_method_11_code 3 (some .int) :: ws) (Rm 0 0 0 0)) (fun aa UU => aa = #[(.int i_), (.int n_), fo] ∧ Z.Warmed39 UU.vm ∧ UU.heap = h0) (fun _ _ _ _ _ => True) (fun _ UU oo U' => ∃ v L, oo = .returned v ∧ Qr (.int i_) h0 n0 v U'.heap L ∧ FrameEnd UU oo U' L (Rm 0 0 0 0).cells (Rm 0 0 0 0).slots) := by
  refine MetFree.of_bodySF (plainFor_of_name pn_0) hisR ?_
  intro p e s m args below meth c s₁ Bd hml0 hP hK
  obtain ⟨rfl, hZ, hh⟩ := hP
  have hx := Bd.exec
  have hby := Bd.bytes
  have hml : c.maxLocals = 3 := hml0
  have hown : s.vm.findClass "jdk/internal/util/Preconditions" = some m.cls := findClass_of_methodNamed Bd.named
  have hnm := (name_of_methodNamed Bd.named Bd.method).1
  have X0 : Stand p l e (Rm 0 0 0 0) s m #[(.int i_), (.int n_), fo] below meth c s₁ [] 0 0 := Stand.of_body Bd
  have e0 : s₁.heap = h0 := by rw [← hh, Bd.state]; rfl
  have N0 := Fr.nil n0
  obtain ⟨A0, hA0⟩ : ∃ A, A = s₁.setTop (entryFrame m #[(.int i_), (.int n_), fo] 3) := ⟨_, rfl⟩
  have G0 : Go p e below A0 (s₁.setTop (mkF m 0 #[.val (.int i_), .val (.int n_), .val fo] [])) := fun tq kq => by rw [hA0]; exact castTop (ef_rmPC m i_ n_ fo hfo) kq
  have G1 : Go p e below A0 (s₁.setTop (mkF m 17 #[.val (.int i_), .val (.int n_), .val fo] [(.int i_)])) := fun tq kq => G0 tq (by
    refine XS.iloadN X0.here hx rfl (hb hby d9_0) rfl ?_
    refine XS.ifNo X0.here hx rfl (hb hby d9_1) rfl ((if0 _ _).trans (flt hi.1).1) ?_
    refine XS.iloadN X0.here hx rfl (hb hby d9_4) rfl ?_
    refine XS.iloadN X0.here hx rfl (hb hby d9_5) rfl ?_
    refine XS.icmpYes X0.here hx rfl (pc0 := 6) (pc' := 16) rfl (hb hby d9_6) rfl (tlt hi.2).1 (by decide) (by decide) ?_
    refine XS.iloadN X0.here hx rfl (hb hby d9_16) rfl ?_
    exact kq)
  obtain ⟨fs, hr, hrun, hended, hW, hsame⟩ := X0.leave (v := some (.int i_)) (fun h => by rw [Bd.returns] at h; cases h)
  refine ⟨_, _, (by rw [← hA0]; exact G1 _ (retOut X0 hx (t := .int) Bd.returns rfl (Or.inl ⟨rfl, Or.inl rfl, _, rfl⟩) (hb hby d9_17) hr)), hrun, hended, _, _, rfl, ?_, ⟨_, rfl⟩, hW, hsame.mono (by decide) (by decide)⟩
  exact ⟨rfl, N0, e0⟩
set_option maxRecDepth 65536 in
set_option maxHeartbeats 40000000 in
theorem rmCI (l : Launch) (Z : State) (a0 : Array Value) (hw : ∀ d ∈ tables_1, d.before a0 Z = true) (ws : List Jvm.Cond) (i_ n_ : Int32) (cs : Int32) (fo : Value) (h0 : Heap) (n0 : Nat) (Z0 : n0 ≤ h0.size) (hCS : Sta Z Z.heap "java/lang/String" "COMPACT_STRINGS" "Z" (.int cs)) (hcs : ¬ cs = (0 : Int32)) (hSF : Sta Z Z.heap "jdk/internal/util/Preconditions" "SIOOBE_FORMATTER" "Ljava/util/function/BiFunction;" fo) (hfo : fo.isRef = true) (hold : Old Z n0 h0) (hi : ¬ i_ < (0 : Int32) ∧ i_ < n_) :
    MetFree l (⟨"java/lang/String", "checkIndex", "(II)V"⟩ : MethodName) (head1 (Jvm.Cond.code (⟨"java/lang/String", "checkIndex", "(II)V"⟩ : MethodName) jdk_42_method_155_code 2 none :: ws) (Rm 1 0 0 14)) (fun aa UU => aa = #[(.int i_), (.int n_)] ∧ Z.Warmed39 UU.vm ∧ UU.heap = h0) (fun _ _ _ _ _ => True) (fun _ UU oo U' => ∃ v L, oo = .returned v ∧ Qn h0 n0 v U'.heap L ∧ FrameEnd UU oo U' L (Rm 1 0 0 14).cells (Rm 1 0 0 14).slots) := by
  refine MetFree.of_bodySF (plainFor_of_name pn_1) hisR ?_
  intro p e s m args below meth c s₁ Bd hml0 hP hK
  obtain ⟨rfl, hZ, hh⟩ := hP
  have hx := Bd.exec
  have hby := Bd.bytes
  have hml : c.maxLocals = 2 := hml0
  have hown : s.vm.findClass "java/lang/String" = some m.cls := findClass_of_methodNamed Bd.named
  have hnm := (name_of_methodNamed Bd.named Bd.method).1
  have X0 : Stand p l e (Rm 1 0 0 14) s m #[(.int i_), (.int n_)] below meth c s₁ [] 0 0 := Stand.of_body Bd
  have e0 : s₁.heap = h0 := by rw [← hh, Bd.state]; rfl
  have N0 := Fr.nil n0
  obtain ⟨A0, hA0⟩ : ∃ A, A = s₁.setTop (entryFrame m #[(.int i_), (.int n_)] 2) := ⟨_, rfl⟩
  have G0 : Go p e below A0 (s₁.setTop (mkF m 0 #[.val (.int i_), .val (.int n_)] [])) := fun tq kq => by rw [hA0]; exact castTop (ef_rmCI m i_ n_) kq
  have G2 : Go p e below A0 (s₁.setTop (mkF m 2 #[.val (.int i_), .val (.int n_)] [(.int n_), (.int i_)])) := fun tq kq => G0 tq (by
    refine XS.iloadN X0.here hx rfl (hb hby d8_0) rfl ?_
    refine XS.iloadN X0.here hx rfl (hb hby d8_1) rfl ?_
    exact kq)
  obtain ⟨T3, X3, e3, st3⟩ := getS2 X0 hx hZ hown (host := "") (Or.inl (wd hw 47 rfl)) Via.refl e0 (hSF.ext hold.2) (g := (mkF m 2 #[.val (.int i_), .val (.int n_)] [(.int n_), (.int i_)])) rfl (hb hby d8_2)
  have G4 : Go p e below A0 (T3.setTop (mkF m 5 #[.val (.int i_), .val (.int n_)] [fo, (.int n_), (.int i_)])) := fun tq kq => G2 tq (st3 _ kq)
  obtain ⟨_, _, ⟨T5, L5, k5, n5⟩, -, X5, ⟨Lc5, hQ5, l5, y5, z5⟩, st5⟩ := Jvm.LawKit.callS X3 hx (y := (⟨"jdk/internal/util/Preconditions", "checkIndex", "(IILjava/util/function/BiFunction;)I"⟩ : MethodName)) hown (mvT hZ (wd hw 49 rfl)) (mvT hZ (wd hw 50 rfl)) (mvT hZ (wd hw 48 rfl)) (mvT hZ (wd hw 51 rfl)) (by decide) (backOf (W := 0) (rmPC l Z a0 hw [] i_ n_ fo h0 n0 Z0 hfo hi) hZ (wd hw 51 rfl) (wd hw 48 rfl) (by decide) (by decide)) (g := (mkF m 5 #[.val (.int i_), .val (.int n_)] [fo, (.int n_), (.int i_)])) rfl (by rw [hml]; rfl) (argsL := [(.int i_), (.int n_), fo]) (rest := []) (lenOf pd_0 rfl) rfl (by show 2 * 0 + _ ≤ _; exact Nat.le_of_eq rfl) (hb hby d8_5) (fun _ _ => ⟨rfl, e3, (by decide : 0 + 0 ≤ _), (by decide : 0 + 0 ≤ _)⟩)
  dsimp only [Pt.U, Pt.locs, Pt.cells, Pt.slots] at X5 l5 y5 z5 st5 hQ5
  obtain rfl : k5 = 0 := y5
  obtain rfl : n5 = 0 := z5
  obtain ⟨rfl, N5q, e5⟩ := hQ5
  have N5 : Fr n0 L5 := by rw [l5]; exact Fr.app N0 N5q
  have G6 : Go p e below A0 (T5.setTop (mkF m 8 #[.val (.int i_), .val (.int n_)] [(.int i_)])) := fun tq kq => G4 tq (st5 _ kq)
  have G7 : Go p e below A0 (T5.setTop (mkF m 9 #[.val (.int i_), .val (.int n_)] [])) := fun tq kq => G6 tq (by
    refine XS.pop X5.here hx rfl (hb hby d8_8) rfl rfl ?_
    exact kq)
  obtain ⟨fs, hr, hrun, hended, hW, hsame⟩ := X5.leave (v := none) (fun _ => rfl)
  refine ⟨_, _, (by rw [← hA0]; exact G7 _ (X5.returnOut hx Bd.returns (hb hby d8_9) hr)), hrun, hended, _, _, rfl, ?_, ⟨_, rfl⟩, hW, hsame.mono (by decide) (by decide)⟩
  exact ⟨rfl, N5, e5⟩
set_option maxRecDepth 65536 in
set_option maxHeartbeats 40000000 in
theorem rmLC (l : Launch) (Z : State) (a0 : Array Value) (hw : ∀ d ∈ tables_1, d.before a0 Z = true) (ws : List Jvm.Cond) (b : Addr) (kb : ClassId) (cf : Nat → Int32) (i_ n_ : Int32) (cs : Int32) (fo : Value) (h0 : Heap) (n0 : Nat) (Z0 : n0 ≤ h0.size) (Ab : Af Z h0 b kb .byte n_ (fun j => .int (own_by (cf j)))) (hi : ¬ i_ < (0 : Int32) ∧ i_ < n_) (hL : own_L (cf (i_).toNatClampNeg)) (hCS : Sta Z Z.heap "java/lang/String" "COMPACT_STRINGS" "Z" (.int cs)) (hcs : ¬ cs = (0 : Int32)) (hSF : Sta Z Z.heap "jdk/internal/util/Preconditions" "SIOOBE_FORMATTER" "Ljava/util/function/BiFunction;" fo) (hfo : fo.isRef = true) (hold : Old Z n0 h0) :
    MetFree l (⟨"java/lang/StringLatin1", "charAt", "([BI)C"⟩ : MethodName) (head1 (Jvm.Cond.code (⟨"java/lang/StringLatin1", "charAt", "([BI)C"⟩ : MethodName) jdk_43_method_2_code 2 (some .char) :: ws) (Rm 2 0 0 27)) (fun aa UU => aa = #[(.ref b), (.int i_)] ∧ Z.Warmed39 UU.vm ∧ UU.heap = h0) (fun _ _ _ _ _ => True) (fun _ UU oo U' => ∃ v L, oo = .returned v ∧ Qr (.int (cf (i_).toNatClampNeg)) h0 n0 v U'.heap L ∧ FrameEnd UU oo U' L (Rm 2 0 0 27).cells (Rm 2 0 0 27).slots) := by
  refine MetFree.of_bodySF (plainFor_of_name pn_2) hisR ?_
  intro p e s m args below meth c s₁ Bd hml0 hP hK
  obtain ⟨rfl, hZ, hh⟩ := hP
  have hx := Bd.exec
  have hby := Bd.bytes
  have hml : c.maxLocals = 2 := hml0
  have hown : s.vm.findClass "java/lang/StringLatin1" = some m.cls := findClass_of_methodNamed Bd.named
  have hnm := (name_of_methodNamed Bd.named Bd.method).1
  have X0 : Stand p l e (Rm 2 0 0 27) s m #[(.ref b), (.int i_)] below meth c s₁ [] 0 0 := Stand.of_body Bd
  have e0 : s₁.heap = h0 := by rw [← hh, Bd.state]; rfl
  have N0 := Fr.nil n0
  obtain ⟨A0, hA0⟩ : ∃ A, A = s₁.setTop (entryFrame m #[(.ref b), (.int i_)] 2) := ⟨_, rfl⟩
  have G0 : Go p e below A0 (s₁.setTop (mkF m 0 #[.val (.ref b), .val (.int i_)] [])) := fun tq kq => by rw [hA0]; exact castTop (ef_rmLC m b i_) kq
  have G8 : Go p e below A0 (s₁.setTop (mkF m 2 #[.val (.ref b), .val (.int i_)] [(.ref b), (.int i_)])) := fun tq kq => G0 tq (by
    refine XS.iloadN X0.here hx rfl (hb hby d7_0) rfl ?_
    refine XS.aloadN X0.here hx rfl (hb hby d7_1) rfl rfl ?_
    exact kq)
  obtain ⟨cl9, Ar9, q9, S9, M9, H9⟩ := id Ab
  have G10 : Go p e below A0 (s₁.setTop (mkF m 3 #[.val (.ref b), .val (.int i_)] [(.int n_), (.int i_)])) := fun tq kq => G8 tq (by
    refine X0.arraylength hx (by rw [e0]; exact Ar9.1) (State.isArrayOf_alike hZ.alike Ar9.2.1) (g := (mkF m 2 #[.val (.ref b), .val (.int i_)] [(.ref b), (.int i_)])) rfl rfl (hb hby d7_2) _ ?_
    rw [len_of S9 M9]
    show Steps p.tables e below (s₁.setTop (mkF m 3 #[.val (.ref b), .val (.int i_)] [(.int n_), (.int i_)])) _
    exact kq)
  obtain ⟨_, _, ⟨T11, L11, k11, n11⟩, -, X11, ⟨Lc11, hQ11, l11, y11, z11⟩, st11⟩ := Jvm.LawKit.callS X0 hx (y := (⟨"java/lang/String", "checkIndex", "(II)V"⟩ : MethodName)) hown (mvT hZ (wd hw 44 rfl)) (mvT hZ (wd hw 45 rfl)) (mvT hZ (wd hw 2 rfl)) (mvT hZ (wd hw 46 rfl)) (by decide) (backOf (W := 0) (rmCI l Z a0 hw [] i_ n_ cs fo h0 n0 Z0 hCS hcs hSF hfo hold hi) hZ (wd hw 46 rfl) (wd hw 2 rfl) (by decide) (by decide)) (g := (mkF m 3 #[.val (.ref b), .val (.int i_)] [(.int n_), (.int i_)])) rfl (by rw [hml]; rfl) (argsL := [(.int i_), (.int n_)]) (rest := []) (lenOf pd_1 rfl) rfl (by show 2 * 0 + _ ≤ _; exact Nat.le_of_eq rfl) (hb hby d7_3) (fun _ _ => ⟨rfl, e0, (by decide : 0 + 0 ≤ _), (by decide : 0 + 0 ≤ _)⟩)
  dsimp only [Pt.U, Pt.locs, Pt.cells, Pt.slots] at X11 l11 y11 z11 st11 hQ11
  obtain rfl : k11 = 0 := y11
  obtain rfl : n11 = 0 := z11
  obtain ⟨rfl, N11q, e11⟩ := hQ11
  have N11 : Fr n0 L11 := by rw [l11]; exact Fr.app N0 N11q
  have G12 : Go p e below A0 (T11.setTop (mkF m 6 #[.val (.ref b), .val (.int i_)] [])) := fun tq kq => G10 tq (st11 _ kq)
  have G13 : Go p e below A0 (T11.setTop (mkF m 8 #[.val (.ref b), .val (.int i_)] [(.int i_), (.ref b)])) := fun tq kq => G12 tq (by
    refine XS.aloadN X11.here hx rfl (hb hby d7_6) rfl rfl ?_
    refine XS.iloadN X11.here hx rfl (hb hby d7_7) rfl ?_
    exact kq)
  obtain ⟨cl14, Ar14, q14, S14, M14, H14⟩ := id Ab
  have hi15 : ¬ (i_ < 0 ∨ cl14.slots.size ≤ (i_).toNatClampNeg) := (inb_of S14 hi)
  have G16 : Go p e below A0 (T11.setTop (mkF m 14 #[.val (.ref b), .val (.int i_)] [(.int (cf (i_).toNatClampNeg))])) := fun tq kq => G13 tq (by
    refine X11.baloadBytes hx (j := i_) (v := (.int (own_by (cf (i_).toNatClampNeg)))) (by rw [e11]; exact Ar14.1) (State.isArrayOf_alike hZ.alike Ar14.2.1) Ar14.2.2 hi15 ((H14 _ (S14 ▸ Nat.lt_of_not_le fun y => hi15 (Or.inr y))).trans (congrArg some rfl)) (g := (mkF m 8 #[.val (.ref b), .val (.int i_)] [(.int i_), (.ref b)])) rfl rfl (hb hby d7_8) _ ?_
    show Steps p.tables e below (T11.setTop (mkF m 9 #[.val (.ref b), .val (.int i_)] [(.int (own_by (cf (i_).toNatClampNeg)))])) _
    refine XS.sipush X11.here hx rfl (hb hby d7_9) ?_
    refine XS.iand X11.here hx rfl (hb hby d7_12) rfl ?_
    refine XS.i2c X11.here hx rfl (hb hby d7_13) rfl ?_
    show Steps p.tables e below (T11.setTop (mkF m 14 #[.val (.ref b), .val (.int i_)] [(.int ((own_by (cf (i_).toNatClampNeg)) &&& (255 : Int32)).toUInt32.toUInt16.toUInt32.toInt32)])) _
    rw [show ((own_by (cf (i_).toNatClampNeg)) &&& (255 : Int32)).toUInt32.toUInt16.toUInt32.toInt32 = (cf (i_).toNatClampNeg) from (own_chL hL)]
    show Steps p.tables e below (T11.setTop (mkF m 14 #[.val (.ref b), .val (.int i_)] [(.int (cf (i_).toNatClampNeg))])) _
    exact kq)
  obtain ⟨fs, hr, hrun, hended, hW, hsame⟩ := X11.leave (v := some (.int (nar .char (cf (i_).toNatClampNeg)))) (fun h => by rw [Bd.returns] at h; cases h)
  refine ⟨_, _, (by rw [← hA0]; exact G16 _ (retN X11 hx (t := .char) Bd.returns (by simp) (hb hby d7_14) hr)), hrun, hended, _, _, rfl, ?_, ⟨_, rfl⟩, hW, hsame.mono (by decide) (by decide)⟩
  exact ⟨(by rw [own_nC hL.R]), N11, e11⟩
set_option maxRecDepth 65536 in
set_option maxHeartbeats 40000000 in
theorem rmCo (l : Launch) (Z : State) (a0 : Array Value) (hw : ∀ d ∈ tables_1, d.before a0 Z = true) (ws : List Jvm.Cond) (a : Addr) (cs : Int32) (h0 : Heap) (n0 : Nat) (Z0 : n0 ≤ h0.size) (E : Exa Z h0 a "java/lang/String") (Fc : Fld Z h0 a "java/lang/String" "coder" "B" (.int 0)) (hCS : Sta Z Z.heap "java/lang/String" "COMPACT_STRINGS" "Z" (.int cs)) (hcs : ¬ cs = (0 : Int32)) (hold : Old Z n0 h0) :
    MetFree l (⟨"java/lang/String", "coder", "()B"⟩ : MethodName) (head1 (Jvm.Cond.code (⟨"java/lang/String", "coder", "()B"⟩ : MethodName) jdk_42_method_152_code 1 (some .byte) :: ws) (Rm 0 0 0 0)) (fun aa UU => aa = #[(.ref a)] ∧ Z.Warmed39 UU.vm ∧ UU.heap = h0) (fun _ _ _ _ _ => True) (fun _ UU oo U' => ∃ v L, oo = .returned v ∧ Qr (.int 0) h0 n0 v U'.heap L ∧ FrameEnd UU oo U' L (Rm 0 0 0 0).cells (Rm 0 0 0 0).slots) := by
  refine MetFree.of_bodySF (plainFor_of_name pn_1) hisR ?_
  intro p e s m args below meth c s₁ Bd hml0 hP hK
  obtain ⟨rfl, hZ, hh⟩ := hP
  have hx := Bd.exec
  have hby := Bd.bytes
  have hml : c.maxLocals = 1 := hml0
  have hown : s.vm.findClass "java/lang/String" = some m.cls := findClass_of_methodNamed Bd.named
  have hnm := (name_of_methodNamed Bd.named Bd.method).1
  have X0 : Stand p l e (Rm 0 0 0 0) s m #[(.ref a)] below meth c s₁ [] 0 0 := Stand.of_body Bd
  have e0 : s₁.heap = h0 := by rw [← hh, Bd.state]; rfl
  have N0 := Fr.nil n0
  obtain ⟨A0, hA0⟩ : ∃ A, A = s₁.setTop (entryFrame m #[(.ref a)] 1) := ⟨_, rfl⟩
  have G0 : Go p e below A0 (s₁.setTop (mkF m 0 #[.val (.ref a)] [])) := fun tq kq => by rw [hA0]; exact castTop (ef_rmCo m a) kq
  obtain ⟨T17, X17, e17, st17⟩ := getS2 X0 hx hZ hown (host := "") (Or.inl (wd hw 28 rfl)) Via.refl e0 (hCS.ext hold.2) (g := (mkF m 0 #[.val (.ref a)] [])) rfl (hb hby d4_0)
  have G18 : Go p e below A0 (T17.setTop (mkF m 3 #[.val (.ref a)] [(.int cs)])) := fun tq kq => G0 tq (st17 _ kq)
  have G19 : Go p e below A0 (T17.setTop (mkF m 7 #[.val (.ref a)] [(.ref a)])) := fun tq kq => G18 tq (by
    refine XS.ifNo X17.here hx rfl (hb hby d4_3) rfl ((if0 _ _).trans (feq hcs).1) ?_
    refine XS.aloadN X17.here hx rfl (hb hby d4_6) rfl rfl ?_
    exact kq)
  obtain ⟨T20, X20, e20, st20⟩ := getF X17 hx hZ hown (host := "") (Or.inl (wd hw 29 rfl)) Via.refl e17 Fc (g := (mkF m 7 #[.val (.ref a)] [(.ref a)])) rfl rfl (hb hby d4_7)
  have G21 : Go p e below A0 (T20.setTop (mkF m 10 #[.val (.ref a)] [(.int 0)])) := fun tq kq => G19 tq (st20 _ kq)
  have G22 : Go p e below A0 (T20.setTop (mkF m 14 #[.val (.ref a)] [(.int 0)])) := fun tq kq => G21 tq (by
    refine XS.goto X20.here hx rfl (pc0 := 10) (pc' := 14) rfl (hb hby d4_10) (by decide) (by decide) ?_
    exact kq)
  obtain ⟨fs, hr, hrun, hended, hW, hsame⟩ := X20.leave (v := some (.int (nar .byte (0 : Int32)))) (fun h => by rw [Bd.returns] at h; cases h)
  refine ⟨_, _, (by rw [← hA0]; exact G22 _ (retN X20 hx (t := .byte) Bd.returns (by simp) (hb hby d4_14) hr)), hrun, hended, _, _, rfl, ?_, ⟨_, rfl⟩, hW, hsame.mono (by decide) (by decide)⟩
  exact ⟨rfl, N0, e20⟩
set_option maxRecDepth 65536 in
set_option maxHeartbeats 40000000 in
theorem rmIL (l : Launch) (Z : State) (a0 : Array Value) (hw : ∀ d ∈ tables_1, d.before a0 Z = true) (ws : List Jvm.Cond) (a : Addr) (cs : Int32) (h0 : Heap) (n0 : Nat) (Z0 : n0 ≤ h0.size) (E : Exa Z h0 a "java/lang/String") (Fc : Fld Z h0 a "java/lang/String" "coder" "B" (.int 0)) (hCS : Sta Z Z.heap "java/lang/String" "COMPACT_STRINGS" "Z" (.int cs)) (hcs : ¬ cs = (0 : Int32)) (hold : Old Z n0 h0) :
    MetFree l (⟨"java/lang/String", "isLatin1", "()Z"⟩ : MethodName) (head1 (Jvm.Cond.code (⟨"java/lang/String", "isLatin1", "()Z"⟩ : MethodName) jdk_42_method_154_code 1 (some .boolean) :: ws) (Rm 0 0 0 0)) (fun aa UU => aa = #[(.ref a)] ∧ Z.Warmed39 UU.vm ∧ UU.heap = h0) (fun _ _ _ _ _ => True) (fun _ UU oo U' => ∃ v L, oo = .returned v ∧ Qr (.int 1) h0 n0 v U'.heap L ∧ FrameEnd UU oo U' L (Rm 0 0 0 0).cells (Rm 0 0 0 0).slots) := by
  refine MetFree.of_bodySF (plainFor_of_name pn_1) hisR ?_
  intro p e s m args below meth c s₁ Bd hml0 hP hK
  obtain ⟨rfl, hZ, hh⟩ := hP
  have hx := Bd.exec
  have hby := Bd.bytes
  have hml : c.maxLocals = 1 := hml0
  have hown : s.vm.findClass "java/lang/String" = some m.cls := findClass_of_methodNamed Bd.named
  have hnm := (name_of_methodNamed Bd.named Bd.method).1
  have X0 : Stand p l e (Rm 0 0 0 0) s m #[(.ref a)] below meth c s₁ [] 0 0 := Stand.of_body Bd
  have e0 : s₁.heap = h0 := by rw [← hh, Bd.state]; rfl
  have N0 := Fr.nil n0
  obtain ⟨A0, hA0⟩ : ∃ A, A = s₁.setTop (entryFrame m #[(.ref a)] 1) := ⟨_, rfl⟩
  have G0 : Go p e below A0 (s₁.setTop (mkF m 0 #[.val (.ref a)] [])) := fun tq kq => by rw [hA0]; exact castTop (ef_rmIL m a) kq
  obtain ⟨T23, X23, e23, st23⟩ := getS2 X0 hx hZ hown (host := "") (Or.inl (wd hw 28 rfl)) Via.refl e0 (hCS.ext hold.2) (g := (mkF m 0 #[.val (.ref a)] [])) rfl (hb hby d6_0)
  have G24 : Go p e below A0 (T23.setTop (mkF m 3 #[.val (.ref a)] [(.int cs)])) := fun tq kq => G0 tq (st23 _ kq)
  have G25 : Go p e below A0 (T23.setTop (mkF m 7 #[.val (.ref a)] [(.ref a)])) := fun tq kq => G24 tq (by
    refine XS.ifNo X23.here hx rfl (hb hby d6_3) rfl ((if0 _ _).trans (feq hcs).1) ?_
    refine XS.aloadN X23.here hx rfl (hb hby d6_6) rfl rfl ?_
    exact kq)
  obtain ⟨T26, X26, e26, st26⟩ := getF X23 hx hZ hown (host := "") (Or.inl (wd hw 29 rfl)) Via.refl e23 Fc (g := (mkF m 7 #[.val (.ref a)] [(.ref a)])) rfl rfl (hb hby d6_7)
  have G27 : Go p e below A0 (T26.setTop (mkF m 10 #[.val (.ref a)] [(.int 0)])) := fun tq kq => G25 tq (st26 _ kq)
  have G28 : Go p e below A0 (T26.setTop (mkF m 18 #[.val (.ref a)] [(.int 1)])) := fun tq kq => G27 tq (by
    refine XS.ifNo X26.here hx rfl (hb hby d6_10) rfl (by decide) ?_
    refine XS.iconst X26.here hx rfl (hb hby d6_13) ?_
    refine XS.goto X26.here hx rfl (pc0 := 14) (pc' := 18) rfl (hb hby d6_14) (by decide) (by decide) ?_
    exact kq)
  obtain ⟨fs, hr, hrun, hended, hW, hsame⟩ := X26.leave (v := some (.int (nar .boolean (1 : Int32)))) (fun h => by rw [Bd.returns] at h; cases h)
  refine ⟨_, _, (by rw [← hA0]; exact G28 _ (retN X26 hx (t := .boolean) Bd.returns (by simp) (hb hby d6_18) hr)), hrun, hended, _, _, rfl, ?_, ⟨_, rfl⟩, hW, hsame.mono (by decide) (by decide)⟩
  exact ⟨rfl, N0, e26⟩
set_option maxRecDepth 65536 in
set_option maxHeartbeats 40000000 in
theorem rmLe (l : Launch) (Z : State) (a0 : Array Value) (hw : ∀ d ∈ tables_1, d.before a0 Z = true) (ws : List Jvm.Cond) (a b : Addr) (kb : ClassId) (gf : Nat → Value) (n_ : Int32) (cs : Int32) (fo : Value) (h0 : Heap) (n0 : Nat) (Z0 : n0 ≤ h0.size) (E : Exa Z h0 a "java/lang/String") (Fv : Fld Z h0 a "java/lang/String" "value" "[B" (.ref b)) (Fc : Fld Z h0 a "java/lang/String" "coder" "B" (.int 0)) (Ab : Af Z h0 b kb .byte n_ gf) (hCS : Sta Z Z.heap "java/lang/String" "COMPACT_STRINGS" "Z" (.int cs)) (hcs : ¬ cs = (0 : Int32)) (hSF : Sta Z Z.heap "jdk/internal/util/Preconditions" "SIOOBE_FORMATTER" "Ljava/util/function/BiFunction;" fo) (hfo : fo.isRef = true) (hold : Old Z n0 h0) :
    MetFree l (⟨"java/lang/String", "length", "()I"⟩ : MethodName) (head1 (Jvm.Cond.code (⟨"java/lang/String", "length", "()I"⟩ : MethodName) jdk_42_method_54_code 1 (some .int) :: ws) (Rm 1 0 0 13)) (fun aa UU => aa = #[(.ref a)] ∧ Z.Warmed39 UU.vm ∧ UU.heap = h0) (fun _ _ _ _ _ => True) (fun _ UU oo U' => ∃ v L, oo = .returned v ∧ Qr (.int n_) h0 n0 v U'.heap L ∧ FrameEnd UU oo U' L (Rm 1 0 0 13).cells (Rm 1 0 0 13).slots) := by
  refine MetFree.of_bodySF (plainFor_of_name pn_1) hisR ?_
  intro p e s m args below meth c s₁ Bd hml0 hP hK
  obtain ⟨rfl, hZ, hh⟩ := hP
  have hx := Bd.exec
  have hby := Bd.bytes
  have hml : c.maxLocals = 1 := hml0
  have hown : s.vm.findClass "java/lang/String" = some m.cls := findClass_of_methodNamed Bd.named
  have hnm := (name_of_methodNamed Bd.named Bd.method).1
  have X0 : Stand p l e (Rm 1 0 0 13) s m #[(.ref a)] below meth c s₁ [] 0 0 := Stand.of_body Bd
  have e0 : s₁.heap = h0 := by rw [← hh, Bd.state]; rfl
  have N0 := Fr.nil n0
  obtain ⟨A0, hA0⟩ : ∃ A, A = s₁.setTop (entryFrame m #[(.ref a)] 1) := ⟨_, rfl⟩
  have G0 : Go p e below A0 (s₁.setTop (mkF m 0 #[.val (.ref a)] [])) := fun tq kq => by rw [hA0]; exact castTop (ef_rmLe m a) kq
  have G29 : Go p e below A0 (s₁.setTop (mkF m 1 #[.val (.ref a)] [(.ref a)])) := fun tq kq => G0 tq (by
    refine XS.aloadN X0.here hx rfl (hb hby d3_0) rfl rfl ?_
    exact kq)
  obtain ⟨T30, X30, e30, st30⟩ := getF X0 hx hZ hown (host := "") (Or.inl (wd hw 22 rfl)) Via.refl e0 Fv (g := (mkF m 1 #[.val (.ref a)] [(.ref a)])) rfl rfl (hb hby d3_1)
  have G31 : Go p e below A0 (T30.setTop (mkF m 4 #[.val (.ref a)] [(.ref b)])) := fun tq kq => G29 tq (st30 _ kq)
  obtain ⟨cl32, Ar32, q32, S32, M32, H32⟩ := id Ab
  have G33 : Go p e below A0 (T30.setTop (mkF m 6 #[.val (.ref a)] [(.ref a), (.int n_)])) := fun tq kq => G31 tq (by
    refine X30.arraylength hx (by rw [e30]; exact Ar32.1) (State.isArrayOf_alike hZ.alike Ar32.2.1) (g := (mkF m 4 #[.val (.ref a)] [(.ref b)])) rfl rfl (hb hby d3_4) _ ?_
    rw [len_of S32 M32]
    show Steps p.tables e below (T30.setTop (mkF m 5 #[.val (.ref a)] [(.int n_)])) _
    refine XS.aloadN X30.here hx rfl (hb hby d3_5) rfl rfl ?_
    exact kq)
  obtain ⟨cq34, kq34, q34a, q34b, q34c⟩ := isOf hZ e30 E
  obtain ⟨_, _, ⟨T34, L34, k34, n34⟩, -, X34, ⟨Lc34, hQ34, l34, y34, z34⟩, st34⟩ := X30.virtualBack hx (y := (⟨"java/lang/String", "coder", "()B"⟩ : MethodName)) (z := (⟨"java/lang/String", "coder", "()B"⟩ : MethodName)) hown (mvT hZ (wd hw 23 rfl)) (mvT hZ (wd hw 24 rfl)) (notFace_of_selects (args := #[]) (mvT hZ (wd hw 26 rfl))) (mvT hZ (wd hw 26 rfl)) (mvT hZ (wd hw 25 rfl)) (by decide) (backOf (W := 1) (rmCo l Z a0 hw [] a cs h0 n0 Z0 E Fc hCS hcs hold) hZ (wd hw 27 rfl) (wd hw 2 rfl) (by decide) (by decide)) q34a q34c (g := (mkF m 6 #[.val (.ref a)] [(.ref a), (.int n_)])) rfl (by rw [hml]; rfl) (Steps.refl _) (argsL := []) (rest := [(.int n_)]) (lenOf pd_2 rfl) rfl (by show 2 * 0 + _ ≤ _; exact Nat.le_of_eq rfl) (hb hby d3_6) (fun _ _ => ⟨rfl, e30, (by decide : 0 + 0 ≤ _), (by decide : 0 + 0 ≤ _)⟩)
  dsimp only [Pt.U, Pt.locs, Pt.cells, Pt.slots] at X34 l34 y34 z34 st34 hQ34
  obtain rfl : k34 = 0 := y34
  obtain rfl : n34 = 0 := z34
  obtain ⟨rfl, N34q, e34⟩ := hQ34
  have N34 : Fr n0 L34 := by rw [l34]; exact Fr.app N0 N34q
  have G35 : Go p e below A0 (T34.setTop (mkF m 9 #[.val (.ref a)] [(.int 0), (.int n_)])) := fun tq kq => G33 tq (st34.trans kq)
  have G36 : Go p e below A0 (T34.setTop (mkF m 10 #[.val (.ref a)] [(.int n_)])) := fun tq kq => G35 tq (by
    refine XS.ishr X34.here hx rfl (hb hby d3_9) rfl ?_
    show Steps p.tables e below (T34.setTop (mkF m 10 #[.val (.ref a)] [(.int (n_ >>> ((0 : Int32) &&& 31)))])) _
    rw [show (n_ >>> ((0 : Int32) &&& 31)) = n_ from (own_sh0 _)]
    show Steps p.tables e below (T34.setTop (mkF m 10 #[.val (.ref a)] [(.int n_)])) _
    exact kq)
  obtain ⟨fs, hr, hrun, hended, hW, hsame⟩ := X34.leave (v := some (.int n_)) (fun h => by rw [Bd.returns] at h; cases h)
  refine ⟨_, _, (by rw [← hA0]; exact G36 _ (retOut X34 hx (t := .int) Bd.returns rfl (Or.inl ⟨rfl, Or.inl rfl, _, rfl⟩) (hb hby d3_10) hr)), hrun, hended, _, _, rfl, ?_, ⟨_, rfl⟩, hW, hsame.mono (by decide) (by decide)⟩
  exact ⟨rfl, N34, e34⟩
set_option maxRecDepth 65536 in
set_option maxHeartbeats 40000000 in
theorem rmCA (l : Launch) (Z : State) (a0 : Array Value) (hw : ∀ d ∈ tables_1, d.before a0 Z = true) (ws : List Jvm.Cond) (a b : Addr) (kb : ClassId) (cf : Nat → Int32) (i_ n_ : Int32) (cs : Int32) (fo : Value) (h0 : Heap) (n0 : Nat) (Z0 : n0 ≤ h0.size) (E : Exa Z h0 a "java/lang/String") (Fv : Fld Z h0 a "java/lang/String" "value" "[B" (.ref b)) (Fc : Fld Z h0 a "java/lang/String" "coder" "B" (.int 0)) (Ab : Af Z h0 b kb .byte n_ (fun j => .int (own_by (cf j)))) (hi : ¬ i_ < (0 : Int32) ∧ i_ < n_) (hL : own_L (cf (i_).toNatClampNeg)) (hCS : Sta Z Z.heap "java/lang/String" "COMPACT_STRINGS" "Z" (.int cs)) (hcs : ¬ cs = (0 : Int32)) (hSF : Sta Z Z.heap "jdk/internal/util/Preconditions" "SIOOBE_FORMATTER" "Ljava/util/function/BiFunction;" fo) (hfo : fo.isRef = true) (hold : Old Z n0 h0) :
    MetFree l (⟨"java/lang/String", "charAt", "(I)C"⟩ : MethodName) (head1 (Jvm.Cond.code (⟨"java/lang/String", "charAt", "(I)C"⟩ : MethodName) jdk_42_method_56_code 2 (some .char) :: ws) (Rm 3 0 0 40)) (fun aa UU => aa = #[(.ref a), (.int i_)] ∧ Z.Warmed39 UU.vm ∧ UU.heap = h0) (fun _ _ _ _ _ => True) (fun _ UU oo U' => ∃ v L, oo = .returned v ∧ Qr (.int (cf (i_).toNatClampNeg)) h0 n0 v U'.heap L ∧ FrameEnd UU oo U' L (Rm 3 0 0 40).cells (Rm 3 0 0 40).slots) := by
  refine MetFree.of_bodySF (plainFor_of_name pn_1) hisR ?_
  intro p e s m args below meth c s₁ Bd hml0 hP hK
  obtain ⟨rfl, hZ, hh⟩ := hP
  have hx := Bd.exec
  have hby := Bd.bytes
  have hml : c.maxLocals = 2 := hml0
  have hown : s.vm.findClass "java/lang/String" = some m.cls := findClass_of_methodNamed Bd.named
  have hnm := (name_of_methodNamed Bd.named Bd.method).1
  have X0 : Stand p l e (Rm 3 0 0 40) s m #[(.ref a), (.int i_)] below meth c s₁ [] 0 0 := Stand.of_body Bd
  have e0 : s₁.heap = h0 := by rw [← hh, Bd.state]; rfl
  have N0 := Fr.nil n0
  obtain ⟨A0, hA0⟩ : ∃ A, A = s₁.setTop (entryFrame m #[(.ref a), (.int i_)] 2) := ⟨_, rfl⟩
  have G0 : Go p e below A0 (s₁.setTop (mkF m 0 #[.val (.ref a), .val (.int i_)] [])) := fun tq kq => by rw [hA0]; exact castTop (ef_rmCA m a i_) kq
  have G37 : Go p e below A0 (s₁.setTop (mkF m 1 #[.val (.ref a), .val (.int i_)] [(.ref a)])) := fun tq kq => G0 tq (by
    refine XS.aloadN X0.here hx rfl (hb hby d5_0) rfl rfl ?_
    exact kq)
  obtain ⟨cq38, kq38, q38a, q38b, q38c⟩ := isOf hZ e0 E
  obtain ⟨_, _, ⟨T38, L38, k38, n38⟩, -, X38, ⟨Lc38, hQ38, l38, y38, z38⟩, st38⟩ := X0.virtualBack hx (y := (⟨"java/lang/String", "isLatin1", "()Z"⟩ : MethodName)) (z := (⟨"java/lang/String", "isLatin1", "()Z"⟩ : MethodName)) hown (mvT hZ (wd hw 35 rfl)) (mvT hZ (wd hw 36 rfl)) (notFace_of_selects (args := #[]) (mvT hZ (wd hw 38 rfl))) (mvT hZ (wd hw 38 rfl)) (mvT hZ (wd hw 37 rfl)) (by decide) (backOf (W := 0) (rmIL l Z a0 hw [] a cs h0 n0 Z0 E Fc hCS hcs hold) hZ (wd hw 39 rfl) (wd hw 2 rfl) (by decide) (by decide)) q38a q38c (g := (mkF m 1 #[.val (.ref a), .val (.int i_)] [(.ref a)])) rfl (by rw [hml]; rfl) (Steps.refl _) (argsL := []) (rest := []) (lenOf pd_3 rfl) rfl (by show 2 * 0 + _ ≤ _; exact Nat.le_of_eq rfl) (hb hby d5_1) (fun _ _ => ⟨rfl, e0, (by decide : 0 + 0 ≤ _), (by decide : 0 + 0 ≤ _)⟩)
  dsimp only [Pt.U, Pt.locs, Pt.cells, Pt.slots] at X38 l38 y38 z38 st38 hQ38
  obtain rfl : k38 = 0 := y38
  obtain rfl : n38 = 0 := z38
  obtain ⟨rfl, N38q, e38⟩ := hQ38
  have N38 : Fr n0 L38 := by rw [l38]; exact Fr.app N0 N38q
  have G39 : Go p e below A0 (T38.setTop (mkF m 4 #[.val (.ref a), .val (.int i_)] [(.int 1)])) := fun tq kq => G37 tq (st38.trans kq)
  have G40 : Go p e below A0 (T38.setTop (mkF m 8 #[.val (.ref a), .val (.int i_)] [(.ref a)])) := fun tq kq => G39 tq (by
    refine XS.ifNo X38.here hx rfl (hb hby d5_4) rfl (by decide) ?_
    refine XS.aloadN X38.here hx rfl (hb hby d5_7) rfl rfl ?_
    exact kq)
  obtain ⟨T41, X41, e41, st41⟩ := getF X38 hx hZ hown (host := "") (Or.inl (wd hw 22 rfl)) Via.refl e38 Fv (g := (mkF m 8 #[.val (.ref a), .val (.int i_)] [(.ref a)])) rfl rfl (hb hby d5_8)
  have G42 : Go p e below A0 (T41.setTop (mkF m 11 #[.val (.ref a), .val (.int i_)] [(.ref b)])) := fun tq kq => G40 tq (st41 _ kq)
  have G43 : Go p e below A0 (T41.setTop (mkF m 12 #[.val (.ref a), .val (.int i_)] [(.int i_), (.ref b)])) := fun tq kq => G42 tq (by
    refine XS.iloadN X41.here hx rfl (hb hby d5_11) rfl ?_
    exact kq)
  obtain ⟨_, _, ⟨T44, L44, k44, n44⟩, -, X44, ⟨Lc44, hQ44, l44, y44, z44⟩, st44⟩ := Jvm.LawKit.callS X41 hx (y := (⟨"java/lang/StringLatin1", "charAt", "([BI)C"⟩ : MethodName)) hown (mvT hZ (wd hw 40 rfl)) (mvT hZ (wd hw 41 rfl)) (mvT hZ (wd hw 42 rfl)) (mvT hZ (wd hw 43 rfl)) (by decide) (backOf (W := 0) (rmLC l Z a0 hw [] b kb cf i_ n_ cs fo h0 n0 Z0 Ab hi hL hCS hcs hSF hfo hold) hZ (wd hw 43 rfl) (wd hw 42 rfl) (by decide) (by decide)) (g := (mkF m 12 #[.val (.ref a), .val (.int i_)] [(.int i_), (.ref b)])) rfl (by rw [hml]; rfl) (argsL := [(.ref b), (.int i_)]) (rest := []) (lenOf pd_4 rfl) rfl (by show 2 * 0 + _ ≤ _; exact Nat.le_of_eq rfl) (hb hby d5_12) (fun _ _ => ⟨rfl, e41, (by decide : 0 + 0 ≤ _), (by decide : 0 + 0 ≤ _)⟩)
  dsimp only [Pt.U, Pt.locs, Pt.cells, Pt.slots] at X44 l44 y44 z44 st44 hQ44
  obtain rfl : k44 = 0 := y44
  obtain rfl : n44 = 0 := z44
  obtain ⟨rfl, N44q, e44⟩ := hQ44
  have N44 : Fr n0 L44 := by rw [l44]; exact Fr.app N38 N44q
  have G45 : Go p e below A0 (T44.setTop (mkF m 15 #[.val (.ref a), .val (.int i_)] [(.int (cf (i_).toNatClampNeg))])) := fun tq kq => G43 tq (st44 _ kq)
  obtain ⟨fs, hr, hrun, hended, hW, hsame⟩ := X44.leave (v := some (.int (nar .char (cf (i_).toNatClampNeg)))) (fun h => by rw [Bd.returns] at h; cases h)
  refine ⟨_, _, (by rw [← hA0]; exact G45 _ (retN X44 hx (t := .char) Bd.returns (by simp) (hb hby d5_15) hr)), hrun, hended, _, _, rfl, ?_, ⟨_, rfl⟩, hW, hsame.mono (by decide) (by decide)⟩
  exact ⟨(by rw [own_nC hL.R]), N44, e44⟩
set_option maxRecDepth 65536 in
set_option maxHeartbeats 40000000 in
theorem rmG (l : Launch) (Z : State) (a0 : Array Value) (hw : ∀ d ∈ tables_1, d.before a0 Z = true) (ws : List Jvm.Cond) (a b : Addr) (kb : ClassId) (cf : Nat → Int32) (i_ n_ pp rr r1 : Int32) (cs : Int32) (fo : Value) (h0 : Heap) (n0 : Nat) (Z0 : n0 ≤ h0.size) (E : Exa Z h0 a "java/lang/String") (Fv : Fld Z h0 a "java/lang/String" "value" "[B" (.ref b)) (Fc : Fld Z h0 a "java/lang/String" "coder" "B" (.int 0)) (Ab : Af Z h0 b kb .byte n_ (fun j => .int (own_by (cf j)))) (hB : ∀ j, own_L (cf j)) (hlr : own_L rr) (h0i : ¬ i_ < (0 : Int32)) (hr0 : r1 = own_gv cf n_ i_ pp rr) (hCS : Sta Z Z.heap "java/lang/String" "COMPACT_STRINGS" "Z" (.int cs)) (hcs : ¬ cs = (0 : Int32)) (hSF : Sta Z Z.heap "jdk/internal/util/Preconditions" "SIOOBE_FORMATTER" "Ljava/util/function/BiFunction;" fo) (hfo : fo.isRef = true) (hold : Old Z n0 h0) :
    MetFree l (⟨"com/example/role_delegation/roledelegation/RevocationKindNamedPinLaw", "g", "(Ljava/lang/String;IIC)C"⟩ : MethodName) (head1 (Jvm.Cond.code (⟨"com/example/role_delegation/roledelegation/RevocationKindNamedPinLaw", "g", "(Ljava/lang/String;IIC)C"⟩ : MethodName) method_3_code 4 (some .char) :: ws) (Rm 4 0 0 53)) (fun aa UU => aa = #[(.ref a), (.int i_), (.int pp), (.int rr)] ∧ Z.Warmed39 UU.vm ∧ UU.heap = h0) (fun _ _ _ _ _ => True) (fun _ UU oo U' => ∃ v L, oo = .returned v ∧ Qr (.int r1) h0 n0 v U'.heap L ∧ FrameEnd UU oo U' L (Rm 4 0 0 53).cells (Rm 4 0 0 53).slots) := by
  refine MetFree.of_bodySF (plainFor_of_name pn_3) hisR ?_
  intro p e s m args below meth c s₁ Bd hml0 hP hK
  obtain ⟨rfl, hZ, hh⟩ := hP
  have hx := Bd.exec
  have hby := Bd.bytes
  have hml : c.maxLocals = 4 := hml0
  have hown : s.vm.findClass "com/example/role_delegation/roledelegation/RevocationKindNamedPinLaw" = some m.cls := findClass_of_methodNamed Bd.named
  have hnm := (name_of_methodNamed Bd.named Bd.method).1
  have X0 : Stand p l e (Rm 4 0 0 53) s m #[(.ref a), (.int i_), (.int pp), (.int rr)] below meth c s₁ [] 0 0 := Stand.of_body Bd
  have e0 : s₁.heap = h0 := by rw [← hh, Bd.state]; rfl
  have N0 := Fr.nil n0
  obtain ⟨A0, hA0⟩ : ∃ A, A = s₁.setTop (entryFrame m #[(.ref a), (.int i_), (.int pp), (.int rr)] 4) := ⟨_, rfl⟩
  have G0 : Go p e below A0 (s₁.setTop (mkF m 0 #[.val (.ref a), .val (.int i_), .val (.int pp), .val (.int rr)] [])) := fun tq kq => by rw [hA0]; exact castTop (ef_rmG m a i_ pp rr) kq
  have G46 : Go p e below A0 (s₁.setTop (mkF m 2 #[.val (.ref a), .val (.int i_), .val (.int pp), .val (.int rr)] [(.int pp), (.int i_)])) := fun tq kq => G0 tq (by
    refine XS.iloadN X0.here hx rfl (hb hby d2_0) rfl ?_
    refine XS.iloadN X0.here hx rfl (hb hby d2_1) rfl ?_
    exact kq)
  by_cases hc47 : i_ = pp
  · have G48 : Go p e below A0 (s₁.setTop (mkF m 6 #[.val (.ref a), .val (.int i_), .val (.int pp), .val (.int rr)] [(.int rr)])) := fun tq kq => G46 tq (by
      refine XS.icmpNo X0.here hx rfl (hb hby d2_2) rfl (teq hc47).2 ?_
      refine XS.iloadN X0.here hx rfl (hb hby d2_5) rfl ?_
      exact kq)
    obtain ⟨fs, hr, hrun, hended, hW, hsame⟩ := X0.leave (v := some (.int (nar .char rr))) (fun h => by rw [Bd.returns] at h; cases h)
    refine ⟨_, _, (by rw [← hA0]; exact G48 _ (retN X0 hx (t := .char) Bd.returns (by simp) (hb hby d2_6) hr)), hrun, hended, _, _, rfl, ?_, ⟨_, rfl⟩, hW, hsame.mono (by decide) (by decide)⟩
    exact ⟨(by rw [hr0, show own_gv cf n_ i_ pp rr = rr from by simp only [own_gv, hc47, if_true, if_false], own_nC hlr.R]), N0, e0⟩
  · have G49 : Go p e below A0 (s₁.setTop (mkF m 9 #[.val (.ref a), .val (.int i_), .val (.int pp), .val (.int rr)] [(.ref a), (.int i_)])) := fun tq kq => G46 tq (by
      refine XS.icmpYes X0.here hx rfl (pc0 := 2) (pc' := 7) rfl (hb hby d2_2) rfl (feq hc47).2 (by decide) (by decide) ?_
      refine XS.iloadN X0.here hx rfl (hb hby d2_7) rfl ?_
      refine XS.aloadN X0.here hx rfl (hb hby d2_8) rfl rfl ?_
      exact kq)
    obtain ⟨cq50, kq50, q50a, q50b, q50c⟩ := isOf hZ e0 E
    obtain ⟨_, _, ⟨T50, L50, k50, n50⟩, -, X50, ⟨Lc50, hQ50, l50, y50, z50⟩, st50⟩ := X0.virtualBack hx (y := (⟨"java/lang/String", "length", "()I"⟩ : MethodName)) (z := (⟨"java/lang/String", "length", "()I"⟩ : MethodName)) hown (mvT hZ (wd hw 17 rfl)) (mvT hZ (wd hw 18 rfl)) (notFace_of_selects (args := #[]) (mvT hZ (wd hw 20 rfl))) (mvT hZ (wd hw 20 rfl)) (mvT hZ (wd hw 19 rfl)) (by decide) (backOf (W := 1) (rmLe l Z a0 hw [] a b kb _ n_ cs fo h0 n0 Z0 E Fv Fc Ab hCS hcs hSF hfo hold) hZ (wd hw 21 rfl) (wd hw 2 rfl) (by decide) (by decide)) q50a q50c (g := (mkF m 9 #[.val (.ref a), .val (.int i_), .val (.int pp), .val (.int rr)] [(.ref a), (.int i_)])) rfl (by rw [hml]; rfl) (Steps.refl _) (argsL := []) (rest := [(.int i_)]) (lenOf pd_5 rfl) rfl (by show 2 * 0 + _ ≤ _; exact Nat.le_of_eq rfl) (hb hby d2_9) (fun _ _ => ⟨rfl, e0, (by decide : 0 + 0 ≤ _), (by decide : 0 + 0 ≤ _)⟩)
    dsimp only [Pt.U, Pt.locs, Pt.cells, Pt.slots] at X50 l50 y50 z50 st50 hQ50
    obtain rfl : k50 = 0 := y50
    obtain rfl : n50 = 0 := z50
    obtain ⟨rfl, N50q, e50⟩ := hQ50
    have N50 : Fr n0 L50 := by rw [l50]; exact Fr.app N0 N50q
    have G51 : Go p e below A0 (T50.setTop (mkF m 12 #[.val (.ref a), .val (.int i_), .val (.int pp), .val (.int rr)] [(.int n_), (.int i_)])) := fun tq kq => G49 tq (st50.trans kq)
    by_cases hc52 : i_ < n_
    · have G53 : Go p e below A0 (T50.setTop (mkF m 17 #[.val (.ref a), .val (.int i_), .val (.int pp), .val (.int rr)] [(.int i_), (.ref a)])) := fun tq kq => G51 tq (by
        refine XS.icmpNo X50.here hx rfl (hb hby d2_12) rfl (tlt hc52).2.1 ?_
        refine XS.aloadN X50.here hx rfl (hb hby d2_15) rfl rfl ?_
        refine XS.iloadN X50.here hx rfl (hb hby d2_16) rfl ?_
        exact kq)
      obtain ⟨cq54, kq54, q54a, q54b, q54c⟩ := isOf hZ e50 E
      obtain ⟨_, _, ⟨T54, L54, k54, n54⟩, -, X54, ⟨Lc54, hQ54, l54, y54, z54⟩, st54⟩ := X50.virtualBack hx (y := (⟨"java/lang/String", "charAt", "(I)C"⟩ : MethodName)) (z := (⟨"java/lang/String", "charAt", "(I)C"⟩ : MethodName)) hown (mvT hZ (wd hw 30 rfl)) (mvT hZ (wd hw 31 rfl)) (notFace_of_selects (args := #[]) (mvT hZ (wd hw 33 rfl))) (mvT hZ (wd hw 33 rfl)) (mvT hZ (wd hw 32 rfl)) (by decide) (backOf (W := 0) (rmCA l Z a0 hw [] a b kb cf i_ n_ cs fo h0 n0 Z0 E Fv Fc Ab ⟨h0i, hc52⟩ (hB _) hCS hcs hSF hfo hold) hZ (wd hw 34 rfl) (wd hw 2 rfl) (by decide) (by decide)) q54a q54c (g := (mkF m 17 #[.val (.ref a), .val (.int i_), .val (.int pp), .val (.int rr)] [(.int i_), (.ref a)])) rfl (by rw [hml]; rfl) (Steps.refl _) (argsL := [(.int i_)]) (rest := []) (lenOf pd_6 rfl) rfl (by show 2 * 0 + _ ≤ _; exact Nat.le_of_eq rfl) (hb hby d2_17) (fun _ _ => ⟨rfl, e50, (by decide : 0 + 0 ≤ _), (by decide : 0 + 0 ≤ _)⟩)
      dsimp only [Pt.U, Pt.locs, Pt.cells, Pt.slots] at X54 l54 y54 z54 st54 hQ54
      obtain rfl : k54 = 0 := y54
      obtain rfl : n54 = 0 := z54
      obtain ⟨rfl, N54q, e54⟩ := hQ54
      have N54 : Fr n0 L54 := by rw [l54]; exact Fr.app N50 N54q
      have G55 : Go p e below A0 (T54.setTop (mkF m 20 #[.val (.ref a), .val (.int i_), .val (.int pp), .val (.int rr)] [(.int (cf (i_).toNatClampNeg))])) := fun tq kq => G53 tq (st54.trans kq)
      obtain ⟨fs, hr, hrun, hended, hW, hsame⟩ := X54.leave (v := some (.int (nar .char (cf (i_).toNatClampNeg)))) (fun h => by rw [Bd.returns] at h; cases h)
      refine ⟨_, _, (by rw [← hA0]; exact G55 _ (retN X54 hx (t := .char) Bd.returns (by simp) (hb hby d2_20) hr)), hrun, hended, _, _, rfl, ?_, ⟨_, rfl⟩, hW, hsame.mono (by decide) (by decide)⟩
      exact ⟨(by rw [hr0, show own_gv cf n_ i_ pp rr = (cf (i_).toNatClampNeg) from by simp only [own_gv, hc47, hc52, if_true, if_false], own_nC (hB _).R]), N54, e54⟩
    · have G56 : Go p e below A0 (T50.setTop (mkF m 22 #[.val (.ref a), .val (.int i_), .val (.int pp), .val (.int rr)] [(.int rr)])) := fun tq kq => G51 tq (by
        refine XS.icmpYes X50.here hx rfl (pc0 := 12) (pc' := 21) rfl (hb hby d2_12) rfl (flt hc52).2.1 (by decide) (by decide) ?_
        refine XS.iloadN X50.here hx rfl (hb hby d2_21) rfl ?_
        exact kq)
      obtain ⟨fs, hr, hrun, hended, hW, hsame⟩ := X50.leave (v := some (.int (nar .char rr))) (fun h => by rw [Bd.returns] at h; cases h)
      refine ⟨_, _, (by rw [← hA0]; exact G56 _ (retN X50 hx (t := .char) Bd.returns (by simp) (hb hby d2_22) hr)), hrun, hended, _, _, rfl, ?_, ⟨_, rfl⟩, hW, hsame.mono (by decide) (by decide)⟩
      exact ⟨(by rw [hr0, show own_gv cf n_ i_ pp rr = rr from by simp only [own_gv, hc47, hc52, if_true, if_false], own_nC hlr.R]), N50, e50⟩
def Qk (Z : State) (bb : Addr) (kb : ClassId) (tf : Nat → Int32) (n_ : Int32) (h0 : Heap) (n0 : Nat) (v : Option Value) (h : Heap) (L : List Loc) : Prop := v = some (.int n_) ∧ Fr n0 L ∧ Keep h0 h [bb] ∧ Af Z h bb kb .byte n_ (fun j => .int (own_by (tf j)))
set_option maxRecDepth 65536 in
set_option maxHeartbeats 40000000 in
theorem rmK (l : Launch) (Z : State) (a0 : Array Value) (hw : ∀ d ∈ tables_1, d.before a0 Z = true) (ws : List Jvm.Cond) (tx : Addr) (kt : ClassId) (tf : Nat → Int32) (n_ : Int32) (bb : Addr) (kb : ClassId) (gf : Nat → Value) (h0 : Heap) (n0 : Nat) (Z0 : n0 ≤ h0.size) (At : Af Z h0 tx kt .char n_ (fun j => .int (tf j))) (hT : ∀ j, own_L (tf j)) (hn : own_N n_) (Ab : Af Z h0 bb kb .byte n_ gf) (gb : n0 ≤ bb) (htb : tx ≠ bb) :
    MetFree l (⟨"java/lang/StringUTF16", "compress", "([CI[BII)I"⟩ : MethodName) (head1 (Jvm.Cond.code (⟨"java/lang/StringUTF16", "compress", "([CI[BII)I"⟩ : MethodName) jdk_52_method_21_code 7 (some .int) :: ws) (Rm 0 0 0 0)) (fun aa UU => aa = #[(.ref tx), (.int 0), (.ref bb), (.int 0), (.int n_)] ∧ Z.Warmed39 UU.vm ∧ UU.heap = h0) (fun _ _ _ _ _ => True) (fun _ UU oo U' => ∃ v L, oo = .returned v ∧ Qk Z bb kb tf n_ h0 n0 v U'.heap L ∧ FrameEnd UU oo U' L (Rm 0 0 0 0).cells (Rm 0 0 0 0).slots) := by
  refine MetFree.of_bodySF (plainFor_of_name pn_4) hisR ?_
  intro p e s m args below meth c s₁ Bd hml0 hP hK
  obtain ⟨rfl, hZ, hh⟩ := hP
  have hx := Bd.exec
  have hby := Bd.bytes
  have hml : c.maxLocals = 7 := hml0
  have hown : s.vm.findClass "java/lang/StringUTF16" = some m.cls := findClass_of_methodNamed Bd.named
  have hnm := (name_of_methodNamed Bd.named Bd.method).1
  have X0 : Stand p l e (Rm 0 0 0 0) s m #[(.ref tx), (.int 0), (.ref bb), (.int 0), (.int n_)] below meth c s₁ [] 0 0 := Stand.of_body Bd
  have e0 : s₁.heap = h0 := by rw [← hh, Bd.state]; rfl
  have N0 := Fr.nil n0
  obtain ⟨A0, hA0⟩ : ∃ A, A = s₁.setTop (entryFrame m #[(.ref tx), (.int 0), (.ref bb), (.int 0), (.int n_)] 7) := ⟨_, rfl⟩
  have G0 : Go p e below A0 (s₁.setTop (mkF m 0 #[.val (.ref tx), .val (.int 0), .val (.ref bb), .val (.int 0), .val (.int n_), .unset, .unset] [])) := fun tq kq => by rw [hA0]; exact castTop (ef_rmK m tx (0 : Int32) bb (0 : Int32) n_) kq
  have G57 : Go p e below A0 (s₁.setTop (mkF m 3 #[.val (.ref tx), .val (.int 0), .val (.ref bb), .val (.int 0), .val (.int n_), .val (.int 0), .unset] [])) := fun tq kq => G0 tq (by
    refine XS.iconst X0.here hx rfl (hb hby d14_0) ?_
    refine XS.istore X0.here hx rfl (hb hby d14_1) rfl (l' := #[.val (.ref tx), .val (.int 0), .val (.ref bb), .val (.int 0), .val (.int n_), .val (.int 0), .unset]) rfl ?_
    exact kq)
  have LP : ∀ k : Nat, k ≤ n_.toNatClampNeg → ∃ (T1 : State) (h1 : Heap) (L1 : List Loc) (x1 : Slot) (g1 : Nat → Value), Stand p l e (Rm 0 0 0 0) s m #[(.ref tx), (.int 0), (.ref bb), (.int 0), (.int n_)] below meth c T1 L1 0 0 ∧ T1.heap = h1 ∧ Fr n0 L1 ∧ Keep h0 h1 [bb] ∧ Af Z h1 tx kt .char n_ (fun j => .int (tf j)) ∧ Af Z h1 bb kb .byte n_ g1 ∧ (∀ j, j < k → g1 j = .int (own_by (tf j))) ∧ (x1 = .unset ∨ ∃ q, x1 = .val (.int q)) ∧ Go p e below A0 (T1.setTop (mkF m 3 #[.val (.ref tx), .val (.int (Int32.ofNat k)), .val (.ref bb), .val (.int (Int32.ofNat k)), .val (.int n_), .val (.int (Int32.ofNat k)), x1] [])) := by
    intro k
    induction k with
    | zero => intro _; exact ⟨_, _, _, .unset, gf, X0, e0, N0, Keep.refl h0 [bb], At, Ab, (fun j hj => absurd hj (Nat.not_lt_zero j)), Or.inl rfl, G57⟩
    | succ k ih =>
      intro hk
      obtain ⟨T1, h1, L1, x1, g1, X1, e1, N1, K1, At1, Ab1, hg1, hx1, G1⟩ := ih (Nat.le_of_succ_le hk)
      obtain ⟨ik, eik⟩ : ∃ q, q = Int32.ofNat k := ⟨_, rfl⟩
      rw [← eik] at G1
      have hik := own_ik hn eik hk
      have G58 : Go p e below A0 (T1.setTop (mkF m 12 #[.val (.ref tx), .val (.int ik), .val (.ref bb), .val (.int ik), .val (.int n_), .val (.int ik), x1] [(.int ik), (.ref tx)])) := fun tq kq => G1 tq (by
        refine XS.iload X1.here hx rfl (hb hby d14_3) rfl ?_
        refine XS.iload X1.here hx rfl (hb hby d14_5) rfl ?_
        refine XS.icmpNo X1.here hx rfl (hb hby d14_7) rfl (tlt hik.1.2).2.1 ?_
        refine XS.aloadN X1.here hx rfl (hb hby d14_10) rfl rfl ?_
        refine XS.iloadN X1.here hx rfl (hb hby d14_11) rfl ?_
        exact kq)
      obtain ⟨cl59, Ar59, q59, S59, M59, H59⟩ := id At1
      have hi60 : ¬ (ik < 0 ∨ cl59.slots.size ≤ (ik).toNatClampNeg) := (inb_of S59 hik.1)
      have G61 : Go p e below A0 (T1.setTop (mkF m 31 #[.val (.ref tx), .val (.int ik), .val (.ref bb), .val (.int ik), .val (.int n_), .val (.int ik), .val (.int (tf (ik).toNatClampNeg))] [(.int (own_by (tf (ik).toNatClampNeg))), (.int ik), (.ref bb)])) := fun tq kq => G58 tq (by
        refine X1.caload hx (j := ik) (v := (.int (tf (ik).toNatClampNeg))) (by rw [e1]; exact Ar59.1) (State.isArrayOf_alike hZ.alike Ar59.2.1) Ar59.2.2 hi60 ((H59 _ (S59 ▸ Nat.lt_of_not_le fun y => hi60 (Or.inr y))).trans (congrArg some rfl)) (g := (mkF m 12 #[.val (.ref tx), .val (.int ik), .val (.ref bb), .val (.int ik), .val (.int n_), .val (.int ik), x1] [(.int ik), (.ref tx)])) rfl rfl (hb hby d14_12) _ ?_
        show Steps p.tables e below (T1.setTop (mkF m 13 #[.val (.ref tx), .val (.int ik), .val (.ref bb), .val (.int ik), .val (.int n_), .val (.int ik), x1] [(.int (tf (ik).toNatClampNeg))])) _
        refine XS.istore X1.here hx rfl (hb hby d14_13) rfl (l' := #[.val (.ref tx), .val (.int ik), .val (.ref bb), .val (.int ik), .val (.int n_), .val (.int ik), .val (.int (tf (ik).toNatClampNeg))]) (by rcases hx1 with rfl | ⟨q, rfl⟩ <;> rfl) ?_
        refine XS.iload X1.here hx rfl (hb hby d14_15) rfl ?_
        refine XS.sipush X1.here hx rfl (hb hby d14_17) ?_
        refine XS.icmpYes X1.here hx rfl (pc0 := 20) (pc' := 26) rfl (hb hby d14_20) rfl (flt (hT _).l).2.2.2 (by decide) (by decide) ?_
        refine XS.aloadN X1.here hx rfl (hb hby d14_26) rfl rfl ?_
        refine XS.iloadN X1.here hx rfl (hb hby d14_27) rfl ?_
        refine XS.iload X1.here hx rfl (hb hby d14_28) rfl ?_
        refine XS.i2b X1.here hx rfl (hb hby d14_30) rfl ?_
        show Steps p.tables e below (T1.setTop (mkF m 31 #[.val (.ref tx), .val (.int ik), .val (.ref bb), .val (.int ik), .val (.int n_), .val (.int ik), .val (.int (tf (ik).toNatClampNeg))] [(.int (tf (ik).toNatClampNeg).toInt8.toInt32), (.int ik), (.ref bb)])) _
        rw [show (tf (ik).toNatClampNeg).toInt8.toInt32 = (own_by (tf (ik).toNatClampNeg)) from rfl]
        show Steps p.tables e below (T1.setTop (mkF m 31 #[.val (.ref tx), .val (.int ik), .val (.ref bb), .val (.int ik), .val (.int n_), .val (.int ik), .val (.int (tf (ik).toNatClampNeg))] [(.int (own_by (tf (ik).toNatClampNeg))), (.int ik), (.ref bb)])) _
        exact kq)
      obtain ⟨cl62, Ar62, q62, S62, M62, H62⟩ := id Ab1
      have hi63 : ¬ (ik < 0 ∨ cl62.slots.size ≤ (ik).toNatClampNeg) := (inb_of S62 hik.1)
      obtain ⟨T64, h64, X64, e64, W64, st64⟩ := stB X1 hx hZ e1 Ar62 (j := ik) hi63 (g := (mkF m 31 #[.val (.ref tx), .val (.int ik), .val (.ref bb), .val (.int ik), .val (.int n_), .val (.int ik), .val (.int (tf (ik).toNatClampNeg))] [(.int (own_by (tf (ik).toNatClampNeg))), (.int ik), (.ref bb)])) rfl rfl (hb hby d14_31)
      rw [show nar .byte (own_by (tf (ik).toNatClampNeg)) = (own_by (tf (ik).toNatClampNeg)) from own_byN _] at W64
      have N64 := Fr.snoc X64 N1 gb
      have V64 : Af Z h64 bb kb .byte n_ (fun i => if i = (ik).toNatClampNeg then (.int (own_by (tf (ik).toNatClampNeg))) else (g1) i) := Af.set Ar62 q62 S62 M62 H62 W64 hi63
      have G65 : Go p e below A0 (T64.setTop (mkF m 32 #[.val (.ref tx), .val (.int ik), .val (.ref bb), .val (.int ik), .val (.int n_), .val (.int ik), .val (.int (tf (ik).toNatClampNeg))] [])) := fun tq kq => G61 tq (st64 _ kq)
      have G66 : Go p e below A0 (T64.setTop (mkF m 3 #[.val (.ref tx), .val (.int (ik + (1 : Int32))), .val (.ref bb), .val (.int (ik + (1 : Int32))), .val (.int n_), .val (.int (ik + (1 : Int32))), .val (.int (tf (ik).toNatClampNeg))] [])) := fun tq kq => G65 tq (by
        refine XS.iinc X64.here hx rfl (hb hby d14_32) rfl (l' := #[.val (.ref tx), .val (.int (ik + (1 : Int32))), .val (.ref bb), .val (.int ik), .val (.int n_), .val (.int ik), .val (.int (tf (ik).toNatClampNeg))]) rfl ?_
        refine XS.iinc X64.here hx rfl (hb hby d14_35) rfl (l' := #[.val (.ref tx), .val (.int (ik + (1 : Int32))), .val (.ref bb), .val (.int (ik + (1 : Int32))), .val (.int n_), .val (.int ik), .val (.int (tf (ik).toNatClampNeg))]) rfl ?_
        refine XS.iinc X64.here hx rfl (hb hby d14_38) rfl (l' := #[.val (.ref tx), .val (.int (ik + (1 : Int32))), .val (.ref bb), .val (.int (ik + (1 : Int32))), .val (.int n_), .val (.int (ik + (1 : Int32))), .val (.int (tf (ik).toNatClampNeg))]) rfl ?_
        refine XS.goto X64.here hx rfl (pc0 := 41) (pc' := 3) rfl (hb hby d14_41) (by decide) (by decide) ?_
        exact kq)
      have f67 := (At1.other W64 htb)
      exact ⟨_, _, _, .val (.int (tf (ik).toNatClampNeg)), _, X64, e64, N64, (K1.wr W64 (Or.inl (List.mem_of_getElem? (i := 0) rfl))), f67, V64, own_hstep hik.2 hg1, Or.inr ⟨_, rfl⟩, (by rw [own_isucc, ← eik]; exact G66)⟩
  obtain ⟨T2, h2, L2, x2, g2, X2, e2, N2, K2, At2, Ab2, hg2, -, G2⟩ := LP n_.toNatClampNeg (Nat.le_refl _)
  rw [own_nof hn] at G2
  have G68 : Go p e below A0 (T2.setTop (mkF m 46 #[.val (.ref tx), .val (.int n_), .val (.ref bb), .val (.int n_), .val (.int n_), .val (.int n_), x2] [(.int n_)])) := fun tq kq => G2 tq (by
    refine XS.iload X2.here hx rfl (hb hby d14_3) rfl ?_
    refine XS.iload X2.here hx rfl (hb hby d14_5) rfl ?_
    refine XS.icmpYes X2.here hx rfl (pc0 := 7) (pc' := 44) rfl (hb hby d14_7) rfl (flt own_nlt).2.1 (by decide) (by decide) ?_
    refine XS.iload X2.here hx rfl (hb hby d14_44) rfl ?_
    exact kq)
  obtain ⟨fs, hr, hrun, hended, hW, hsame⟩ := X2.leave (v := some (.int n_)) (fun h => by rw [Bd.returns] at h; cases h)
  refine ⟨_, _, (by rw [← hA0]; exact G68 _ (retOut X2 hx (t := .int) Bd.returns rfl (Or.inl ⟨rfl, Or.inl rfl, _, rfl⟩) (hb hby d14_46) hr)), hrun, hended, _, _, rfl, ?_, ⟨_, rfl⟩, hW, hsame.mono (by decide) (by decide)⟩
  show Qk Z bb kb tf n_ h0 n0 _ T2.heap _
  rw [e2]
  exact ⟨rfl, N2, K2, Ab2.fn hg2⟩
def Qcp (Z : State) (tf : Nat → Int32) (n_ : Int32) (h0 : Heap) (n0 : Nat) (v : Option Value) (h : Heap) (L : List Loc) : Prop := ∃ b kb, v = some (.ref b) ∧ Fr n0 L ∧ Keep h0 h [] ∧ h0.size ≤ b ∧ n0 ≤ b ∧ Af Z h b kb .byte n_ (fun j => .int (own_by (tf j)))
set_option maxRecDepth 65536 in
set_option maxHeartbeats 40000000 in
theorem rmCp (l : Launch) (Z : State) (a0 : Array Value) (hw : ∀ d ∈ tables_1, d.before a0 Z = true) (ws : List Jvm.Cond) (tx : Addr) (kt : ClassId) (tf : Nat → Int32) (n_ : Int32)  (h0 : Heap) (n0 : Nat) (Z0 : n0 ≤ h0.size) (At : Af Z h0 tx kt .char n_ (fun j => .int (tf j))) (hT : ∀ j, own_L (tf j)) (hn : own_N n_) :
    MetFree l (⟨"java/lang/StringUTF16", "compress", "([CII)[B"⟩ : MethodName) (head1 (Jvm.Cond.code (⟨"java/lang/StringUTF16", "compress", "([CII)[B"⟩ : MethodName) jdk_52_method_16_code 6 (some (.array .byte)) :: ws) (Rm 1 1 12 18)) (fun aa UU => aa = #[(.ref tx), (.int 0), (.int n_)] ∧ Z.Warmed39 UU.vm ∧ UU.heap = h0) (fun _ _ _ _ _ => True) (fun _ UU oo U' => ∃ v L, oo = .returned v ∧ Qcp Z tf n_ h0 n0 v U'.heap L ∧ FrameEnd UU oo U' L (Rm 1 1 12 18).cells (Rm 1 1 12 18).slots) := by
  refine MetFree.of_bodySF (plainFor_of_name pn_4) hisR ?_
  intro p e s m args below meth c s₁ Bd hml0 hP hK
  obtain ⟨rfl, hZ, hh⟩ := hP
  have hx := Bd.exec
  have hby := Bd.bytes
  have hml : c.maxLocals = 6 := hml0
  have hown : s.vm.findClass "java/lang/StringUTF16" = some m.cls := findClass_of_methodNamed Bd.named
  have hnm := (name_of_methodNamed Bd.named Bd.method).1
  have X0 : Stand p l e (Rm 1 1 12 18) s m #[(.ref tx), (.int 0), (.int n_)] below meth c s₁ [] 0 0 := Stand.of_body Bd
  have e0 : s₁.heap = h0 := by rw [← hh, Bd.state]; rfl
  have N0 := Fr.nil n0
  obtain ⟨A0, hA0⟩ : ∃ A, A = s₁.setTop (entryFrame m #[(.ref tx), (.int 0), (.int n_)] 6) := ⟨_, rfl⟩
  have G0 : Go p e below A0 (s₁.setTop (mkF m 0 #[.val (.ref tx), .val (.int 0), .val (.int n_), .unset, .unset, .unset] [])) := fun tq kq => by rw [hA0]; exact castTop (ef_rmCp m tx (0 : Int32) n_) kq
  have G69 : Go p e below A0 (s₁.setTop (mkF m 1 #[.val (.ref tx), .val (.int 0), .val (.int n_), .unset, .unset, .unset] [(.int n_)])) := fun tq kq => G0 tq (by
    refine XS.iloadN X0.here hx rfl (hb hby d13_0) rfl ?_
    exact kq)
  obtain ⟨T70, h70, k70, X70, e70, E70, A70, st70⟩ := newP X0 hx hZ (wd hw 4 rfl) e0 (g := (mkF m 1 #[.val (.ref tx), .val (.int 0), .val (.int n_), .unset, .unset, .unset] [(.int n_)])) rfl (hb hby d13_1) rfl (own_nn hn) (cap := 12) (own_n12 hn) (by decide) (by decide) (by decide)
  obtain ⟨b70, g70⟩ : ∃ z, z = h0.size := ⟨_, rfl⟩
  rw [← g70] at A70 st70
  have sz_b70 : h0.size ≤ b70 := Nat.le_trans (Nat.le_refl h0.size) (Nat.le_of_eq g70.symm)
  have g_b70 : n0 ≤ b70 := Nat.le_trans Z0 (Nat.le_of_eq g70.symm)
  have lt_tx_b70 : tx < b70 := Nat.lt_of_lt_of_le At.lt (Nat.le_of_eq g70.symm)
  have V70 : Arv Z h70 b70 k70 .byte n_ [] (.int 0) := Arv.new A70 (own_nn hn)
  have G71 : Go p e below A0 (T70.setTop (mkF m 3 #[.val (.ref tx), .val (.int 0), .val (.int n_), .unset, .unset, .unset] [(.ref b70)])) := fun tq kq => G69 tq (st70 _ kq)
  have G72 : Go p e below A0 (T70.setTop (mkF m 9 #[.val (.ref tx), .val (.int 0), .val (.int n_), .val (.ref b70), .unset, .unset] [(.int n_), (.int 0), (.ref b70), (.int 0), (.ref tx)])) := fun tq kq => G71 tq (by
    refine XS.astoreN X70.here hx rfl (hb hby d13_3) rfl rfl (l' := #[.val (.ref tx), .val (.int 0), .val (.int n_), .val (.ref b70), .unset, .unset]) rfl ?_
    refine XS.aloadN X70.here hx rfl (hb hby d13_4) rfl rfl ?_
    refine XS.iloadN X70.here hx rfl (hb hby d13_5) rfl ?_
    refine XS.aloadN X70.here hx rfl (hb hby d13_6) rfl rfl ?_
    refine XS.iconst X70.here hx rfl (hb hby d13_7) ?_
    refine XS.iloadN X70.here hx rfl (hb hby d13_8) rfl ?_
    exact kq)
  have f74 := (Nat.le_trans Z0 E70.1)
  have f75 := (At.ext E70)
  obtain ⟨_, _, ⟨T73, L73, k73, n73⟩, -, X73, ⟨Lc73, hQ73, l73, y73, z73⟩, st73⟩ := Jvm.LawKit.callS X70 hx (y := (⟨"java/lang/StringUTF16", "compress", "([CI[BII)I"⟩ : MethodName)) hown (mvT hZ (wd hw 67 rfl)) (mvT hZ (wd hw 68 rfl)) (mvT hZ (wd hw 65 rfl)) (mvT hZ (wd hw 69 rfl)) (by decide) (backOf (W := 0) (rmK l Z a0 hw [] tx kt tf n_ b70 k70 _ h70 n0 f74 f75 hT hn (Af.of V70) g_b70 (Nat.ne_of_lt lt_tx_b70)) hZ (wd hw 69 rfl) (wd hw 65 rfl) (by decide) (by decide)) (g := (mkF m 9 #[.val (.ref tx), .val (.int 0), .val (.int n_), .val (.ref b70), .unset, .unset] [(.int n_), (.int 0), (.ref b70), (.int 0), (.ref tx)])) rfl (by rw [hml]; rfl) (argsL := [(.ref tx), (.int 0), (.ref b70), (.int 0), (.int n_)]) (rest := []) (lenOf pd_7 rfl) rfl (by show 2 * 0 + _ ≤ _; exact Nat.le_of_eq rfl) (hb hby d13_9) (fun _ _ => ⟨rfl, e70, (by decide : 1 + 0 ≤ _), (by decide : 12 + 0 ≤ _)⟩)
  dsimp only [Pt.U, Pt.locs, Pt.cells, Pt.slots] at X73 l73 y73 z73 st73 hQ73
  obtain rfl : k73 = 1 := y73
  obtain rfl : n73 = 12 := z73
  obtain ⟨rfl, N73q, K73, Ab73⟩ := hQ73
  have N73 : Fr n0 L73 := by rw [l73]; exact Fr.app N0 N73q
  have G76 : Go p e below A0 (T73.setTop (mkF m 12 #[.val (.ref tx), .val (.int 0), .val (.int n_), .val (.ref b70), .unset, .unset] [(.int n_)])) := fun tq kq => G72 tq (st73 _ kq)
  have G77 : Go p e below A0 (T73.setTop (mkF m 58 #[.val (.ref tx), .val (.int 0), .val (.int n_), .val (.ref b70), .val (.int n_), .unset] [(.ref b70)])) := fun tq kq => G76 tq (by
    refine XS.istore X73.here hx rfl (hb hby d13_12) rfl (l' := #[.val (.ref tx), .val (.int 0), .val (.int n_), .val (.ref b70), .val (.int n_), .unset]) rfl ?_
    refine XS.iload X73.here hx rfl (hb hby d13_14) rfl ?_
    refine XS.iloadN X73.here hx rfl (hb hby d13_16) rfl ?_
    refine XS.icmpYes X73.here hx rfl (pc0 := 17) (pc' := 57) rfl (hb hby d13_17) rfl (teq (rfl : n_ = n_)).1 (by decide) (by decide) ?_
    refine XS.aloadN X73.here hx rfl (hb hby d13_57) rfl rfl ?_
    exact kq)
  obtain ⟨fs, hr, hrun, hended, hW, hsame⟩ := X73.leave (v := some (.ref b70)) (fun h => by rw [Bd.returns] at h; cases h)
  refine ⟨_, _, (by rw [← hA0]; exact G77 _ (retOut X73 hx (t := (.array .byte)) Bd.returns rfl (Or.inr (Or.inr (Or.inr (Or.inr ⟨rfl, rfl, rfl⟩)))) (hb hby d13_58) hr)), hrun, hended, _, _, rfl, ?_, ⟨_, rfl⟩, hW, hsame.mono (by decide) (by decide)⟩
  show Qcp Z tf n_ h0 n0 _ T73.heap _
  exact ⟨b70, k70, rfl, N73, (((Keep.refl h0 []).ext E70).trans K73 (allS (P := fun x => x ∈ [] ∨ h0.size ≤ x) (Or.inr sz_b70) all0)), sz_b70, g_b70, Ab73⟩
set_option maxRecDepth 65536 in
set_option maxHeartbeats 40000000 in
theorem rmCd (l : Launch) (Z : State) (a0 : Array Value) (hw : ∀ d ∈ tables_1, d.before a0 Z = true) (ws : List Jvm.Cond) (b : Addr) (kb : ClassId) (gf : Nat → Value) (n_ : Int32) (h0 : Heap) (n0 : Nat) (Z0 : n0 ≤ h0.size) (Ab : Af Z h0 b kb .byte n_ gf) :
    MetFree l (⟨"java/lang/StringUTF16", "coderFromArrayLen", "([BI)B"⟩ : MethodName) (head1 (Jvm.Cond.code (⟨"java/lang/StringUTF16", "coderFromArrayLen", "([BI)B"⟩ : MethodName) jdk_52_method_15_code 2 (some .byte) :: ws) (Rm 0 0 0 0)) (fun aa UU => aa = #[(.ref b), (.int n_)] ∧ Z.Warmed39 UU.vm ∧ UU.heap = h0) (fun _ _ _ _ _ => True) (fun _ UU oo U' => ∃ v L, oo = .returned v ∧ Qr (.int 0) h0 n0 v U'.heap L ∧ FrameEnd UU oo U' L (Rm 0 0 0 0).cells (Rm 0 0 0 0).slots) := by
  refine MetFree.of_bodySF (plainFor_of_name pn_4) hisR ?_
  intro p e s m args below meth c s₁ Bd hml0 hP hK
  obtain ⟨rfl, hZ, hh⟩ := hP
  have hx := Bd.exec
  have hby := Bd.bytes
  have hml : c.maxLocals = 2 := hml0
  have hown : s.vm.findClass "java/lang/StringUTF16" = some m.cls := findClass_of_methodNamed Bd.named
  have hnm := (name_of_methodNamed Bd.named Bd.method).1
  have X0 : Stand p l e (Rm 0 0 0 0) s m #[(.ref b), (.int n_)] below meth c s₁ [] 0 0 := Stand.of_body Bd
  have e0 : s₁.heap = h0 := by rw [← hh, Bd.state]; rfl
  have N0 := Fr.nil n0
  obtain ⟨A0, hA0⟩ : ∃ A, A = s₁.setTop (entryFrame m #[(.ref b), (.int n_)] 2) := ⟨_, rfl⟩
  have G0 : Go p e below A0 (s₁.setTop (mkF m 0 #[.val (.ref b), .val (.int n_)] [])) := fun tq kq => by rw [hA0]; exact castTop (ef_rmCd m b n_) kq
  have G78 : Go p e below A0 (s₁.setTop (mkF m 2 #[.val (.ref b), .val (.int n_)] [(.ref b), (.int n_)])) := fun tq kq => G0 tq (by
    refine XS.iloadN X0.here hx rfl (hb hby d15_0) rfl ?_
    refine XS.aloadN X0.here hx rfl (hb hby d15_1) rfl rfl ?_
    exact kq)
  obtain ⟨cl79, Ar79, q79, S79, M79, H79⟩ := id Ab
  have G80 : Go p e below A0 (s₁.setTop (mkF m 8 #[.val (.ref b), .val (.int n_)] [(.int 0)])) := fun tq kq => G78 tq (by
    refine X0.arraylength hx (by rw [e0]; exact Ar79.1) (State.isArrayOf_alike hZ.alike Ar79.2.1) (g := (mkF m 2 #[.val (.ref b), .val (.int n_)] [(.ref b), (.int n_)])) rfl rfl (hb hby d15_2) _ ?_
    rw [len_of S79 M79]
    show Steps p.tables e below (s₁.setTop (mkF m 3 #[.val (.ref b), .val (.int n_)] [(.int n_), (.int n_)])) _
    refine XS.isub X0.here hx rfl (hb hby d15_3) rfl ?_
    show Steps p.tables e below (s₁.setTop (mkF m 4 #[.val (.ref b), .val (.int n_)] [(.int (n_ - n_))])) _
    rw [show (n_ - n_) = (0 : Int32) from (own_sub0 _)]
    show Steps p.tables e below (s₁.setTop (mkF m 4 #[.val (.ref b), .val (.int n_)] [(.int 0)])) _
    refine XS.bipush X0.here hx rfl (hb hby d15_4) ?_
    refine XS.iushr X0.here hx rfl (hb hby d15_6) rfl ?_
    show Steps p.tables e below (s₁.setTop (mkF m 7 #[.val (.ref b), .val (.int n_)] [(.int (((0 : Int32).toUInt32 >>> ((31 : Int32) &&& 31).toUInt32).toInt32))])) _
    rw [show (((0 : Int32).toUInt32 >>> ((31 : Int32) &&& 31).toUInt32).toInt32) = (0 : Int32) from (by decide : (((0 : Int32).toUInt32 >>> ((31 : Int32) &&& 31).toUInt32).toInt32) = (0 : Int32))]
    show Steps p.tables e below (s₁.setTop (mkF m 7 #[.val (.ref b), .val (.int n_)] [(.int 0)])) _
    refine XS.i2b X0.here hx rfl (hb hby d15_7) rfl ?_
    show Steps p.tables e below (s₁.setTop (mkF m 8 #[.val (.ref b), .val (.int n_)] [(.int (0 : Int32).toInt8.toInt32)])) _
    rw [show (0 : Int32).toInt8.toInt32 = (0 : Int32) from (by decide)]
    show Steps p.tables e below (s₁.setTop (mkF m 8 #[.val (.ref b), .val (.int n_)] [(.int 0)])) _
    exact kq)
  obtain ⟨fs, hr, hrun, hended, hW, hsame⟩ := X0.leave (v := some (.int (nar .byte (0 : Int32)))) (fun h => by rw [Bd.returns] at h; cases h)
  refine ⟨_, _, (by rw [← hA0]; exact G80 _ (retN X0 hx (t := .byte) Bd.returns (by simp) (hb hby d15_8) hr)), hrun, hended, _, _, rfl, ?_, ⟨_, rfl⟩, hW, hsame.mono (by decide) (by decide)⟩
  exact ⟨rfl, N0, e0⟩
def Qi (Z : State) (a : Addr) (n_ : Int32) (g : Nat → Value) (h0 : Heap) (n0 : Nat) (v : Option Value) (h : Heap) (L : List Loc) : Prop := v = none ∧ Fr n0 L ∧ Keep h0 h [a] ∧ ∃ b kb, Fld Z h a "java/lang/String" "value" "[B" (.ref b) ∧ Fld Z h a "java/lang/String" "coder" "B" (.int 0) ∧ Af Z h b kb .byte n_ g
set_option maxRecDepth 65536 in
set_option maxHeartbeats 40000000 in
theorem rmJ (l : Launch) (Z : State) (a0 : Array Value) (hw : ∀ d ∈ tables_1, d.before a0 Z = true) (ws : List Jvm.Cond) (a tx : Addr) (kt : ClassId) (tf : Nat → Int32) (n_ : Int32) (cs : Int32) (fo : Value) (h0 : Heap) (n0 : Nat) (Z0 : n0 ≤ h0.size) (E : Exa Z h0 a "java/lang/String") (ga : n0 ≤ a) (Fv0 : Fld Z h0 a "java/lang/String" "value" "[B" .null) (Fc0 : Fld Z h0 a "java/lang/String" "coder" "B" (.int 0)) (At : Af Z h0 tx kt .char n_ (fun j => .int (tf j))) (hta : tx ≠ a) (hT : ∀ j, own_L (tf j)) (hn : own_N n_) (hCS : Sta Z Z.heap "java/lang/String" "COMPACT_STRINGS" "Z" (.int cs)) (hcs : ¬ cs = (0 : Int32)) (hSF : Sta Z Z.heap "jdk/internal/util/Preconditions" "SIOOBE_FORMATTER" "Ljava/util/function/BiFunction;" fo) (hfo : fo.isRef = true) (hold : Old Z n0 h0) :
    MetFree l (⟨"java/lang/String", "<init>", "([CIILjava/lang/Void;)V"⟩ : MethodName) (head1 (Jvm.Cond.code (⟨"java/lang/String", "<init>", "([CIILjava/lang/Void;)V"⟩ : MethodName) jdk_42_method_149_code 6 none :: ws) (Rm 2 1 12 35)) (fun aa UU => aa = #[(.ref a), (.ref tx), (.int 0), (.int n_), .null] ∧ Z.Warmed39 UU.vm ∧ UU.heap = h0) (fun _ _ _ _ _ => True) (fun _ UU oo U' => ∃ v L, oo = .returned v ∧ Qi Z a n_ (fun j => .int (own_by (tf j))) h0 n0 v U'.heap L ∧ FrameEnd UU oo U' L (Rm 2 1 12 35).cells (Rm 2 1 12 35).slots) := by
  refine MetFree.of_bodySF (plainFor_of_name pn_1) hisR ?_
  intro p e s m args below meth c s₁ Bd hml0 hP hK
  obtain ⟨rfl, hZ, hh⟩ := hP
  have hx := Bd.exec
  have hby := Bd.bytes
  have hml : c.maxLocals = 6 := hml0
  have hown : s.vm.findClass "java/lang/String" = some m.cls := findClass_of_methodNamed Bd.named
  have hnm := (name_of_methodNamed Bd.named Bd.method).1
  have X0 : Stand p l e (Rm 2 1 12 35) s m #[(.ref a), (.ref tx), (.int 0), (.int n_), .null] below meth c s₁ [] 0 0 := Stand.of_body Bd
  have e0 : s₁.heap = h0 := by rw [← hh, Bd.state]; rfl
  have N0 := Fr.nil n0
  obtain ⟨A0, hA0⟩ : ∃ A, A = s₁.setTop (entryFrame m #[(.ref a), (.ref tx), (.int 0), (.int n_), .null] 6) := ⟨_, rfl⟩
  have G0 : Go p e below A0 (s₁.setTop (mkF m 0 #[.val (.ref a), .val (.ref tx), .val (.int 0), .val (.int n_), .val .null, .unset] [])) := fun tq kq => by rw [hA0]; exact castTop (ef_rmJ m a tx (0 : Int32) n_) kq
  have G81 : Go p e below A0 (s₁.setTop (mkF m 1 #[.val (.ref a), .val (.ref tx), .val (.int 0), .val (.int n_), .val .null, .unset] [(.ref a)])) := fun tq kq => G0 tq (by
    refine XS.aloadN X0.here hx rfl (hb hby d11_0) rfl rfl ?_
    exact kq)
  obtain ⟨T82, X82, e82, st82⟩ := initO X0 hx hZ hown (wd hw 60 rfl) (wd hw 61 rfl) (wd hw 62 rfl) e0 (g := (mkF m 1 #[.val (.ref a), .val (.ref tx), .val (.int 0), .val (.int n_), .val .null, .unset] [(.ref a)])) rfl (by rw [hml]; rfl) rfl (hb hby d11_1) (by decide) (W := 0) (by show 2 * 0 + _ ≤ _; exact Nat.le_of_eq rfl) (by decide)
  have G83 : Go p e below A0 (T82.setTop (mkF m 4 #[.val (.ref a), .val (.ref tx), .val (.int 0), .val (.int n_), .val .null, .unset] [])) := fun tq kq => G81 tq (st82 _ kq)
  have G84 : Go p e below A0 (T82.setTop (mkF m 27 #[.val (.ref a), .val (.ref tx), .val (.int 0), .val (.int n_), .val .null, .unset] [])) := fun tq kq => G83 tq (by
    refine XS.iloadN X82.here hx rfl (hb hby d11_4) rfl ?_
    refine XS.ifYes X82.here hx rfl (pc0 := 5) (pc' := 27) rfl (hb hby d11_5) rfl ((if0 _ _).trans (feq (own_n0 hn)).2) (by decide) (by decide) ?_
    exact kq)
  obtain ⟨T85, X85, e85, st85⟩ := getS2 X82 hx hZ hown (host := "") (Or.inl (wd hw 28 rfl)) Via.refl e82 (hCS.ext hold.2) (g := (mkF m 27 #[.val (.ref a), .val (.ref tx), .val (.int 0), .val (.int n_), .val .null, .unset] [])) rfl (hb hby d11_27)
  have G86 : Go p e below A0 (T85.setTop (mkF m 30 #[.val (.ref a), .val (.ref tx), .val (.int 0), .val (.int n_), .val .null, .unset] [(.int cs)])) := fun tq kq => G84 tq (st85 _ kq)
  have G87 : Go p e below A0 (T85.setTop (mkF m 36 #[.val (.ref a), .val (.ref tx), .val (.int 0), .val (.int n_), .val .null, .unset] [(.int n_), (.int 0), (.ref tx)])) := fun tq kq => G86 tq (by
    refine XS.ifNo X85.here hx rfl (hb hby d11_30) rfl ((if0 _ _).trans (feq hcs).1) ?_
    refine XS.aloadN X85.here hx rfl (hb hby d11_33) rfl rfl ?_
    refine XS.iloadN X85.here hx rfl (hb hby d11_34) rfl ?_
    refine XS.iloadN X85.here hx rfl (hb hby d11_35) rfl ?_
    exact kq)
  obtain ⟨_, _, ⟨T88, L88, k88, n88⟩, -, X88, ⟨Lc88, hQ88, l88, y88, z88⟩, st88⟩ := Jvm.LawKit.callS X85 hx (y := (⟨"java/lang/StringUTF16", "compress", "([CII)[B"⟩ : MethodName)) hown (mvT hZ (wd hw 63 rfl)) (mvT hZ (wd hw 64 rfl)) (mvT hZ (wd hw 65 rfl)) (mvT hZ (wd hw 66 rfl)) (by decide) (backOf (W := 0) (rmCp l Z a0 hw [] tx kt tf n_ h0 n0 Z0 At hT hn) hZ (wd hw 66 rfl) (wd hw 65 rfl) (by decide) (by decide)) (g := (mkF m 36 #[.val (.ref a), .val (.ref tx), .val (.int 0), .val (.int n_), .val .null, .unset] [(.int n_), (.int 0), (.ref tx)])) rfl (by rw [hml]; rfl) (argsL := [(.ref tx), (.int 0), (.int n_)]) (rest := []) (lenOf pd_8 rfl) rfl (by show 2 * 0 + _ ≤ _; exact Nat.le_of_eq rfl) (hb hby d11_36) (fun _ _ => ⟨rfl, e85, (by decide : 0 + 1 ≤ _), (by decide : 0 + 12 ≤ _)⟩)
  dsimp only [Pt.U, Pt.locs, Pt.cells, Pt.slots] at X88 l88 y88 z88 st88 hQ88
  obtain rfl : k88 = 1 := y88
  obtain rfl : n88 = 12 := z88
  obtain ⟨bb88, kk88, rfl, N88q, K88, hs88, hg88, Ab88⟩ := hQ88
  have N88 : Fr n0 L88 := by rw [l88]; exact Fr.app N0 N88q
  have lt_a_bb88 : a < bb88 := Nat.lt_of_lt_of_le E.lt hs88
  have lt_tx_bb88 : tx < bb88 := Nat.lt_of_lt_of_le At.lt hs88
  have sz_bb88 : h0.size ≤ bb88 := Nat.le_trans (Nat.le_refl h0.size) hs88
  have G89 : Go p e below A0 (T88.setTop (mkF m 39 #[.val (.ref a), .val (.ref tx), .val (.int 0), .val (.int n_), .val .null, .unset] [(.ref bb88)])) := fun tq kq => G87 tq (st88 _ kq)
  have G90 : Go p e below A0 (T88.setTop (mkF m 45 #[.val (.ref a), .val (.ref tx), .val (.int 0), .val (.int n_), .val .null, .val (.ref bb88)] [(.int n_), (.ref bb88), (.ref a)])) := fun tq kq => G89 tq (by
    refine XS.astore X88.here hx rfl (hb hby d11_39) rfl rfl (l' := #[.val (.ref a), .val (.ref tx), .val (.int 0), .val (.int n_), .val .null, .val (.ref bb88)]) rfl ?_
    refine XS.aloadN X88.here hx rfl (hb hby d11_41) rfl rfl ?_
    refine XS.aload X88.here hx rfl (hb hby d11_42) rfl rfl ?_
    refine XS.iloadN X88.here hx rfl (hb hby d11_44) rfl ?_
    exact kq)
  have f92 := (Nat.le_trans Z0 K88.1)
  obtain ⟨_, _, ⟨T91, L91, k91, n91⟩, -, X91, ⟨Lc91, hQ91, l91, y91, z91⟩, st91⟩ := Jvm.LawKit.callS X88 hx (y := (⟨"java/lang/StringUTF16", "coderFromArrayLen", "([BI)B"⟩ : MethodName)) hown (mvT hZ (wd hw 70 rfl)) (mvT hZ (wd hw 71 rfl)) (mvT hZ (wd hw 65 rfl)) (mvT hZ (wd hw 72 rfl)) (by decide) (backOf (W := 1) (rmCd l Z a0 hw [] bb88 kk88 _ n_ T88.heap n0 f92 Ab88) hZ (wd hw 72 rfl) (wd hw 65 rfl) (by decide) (by decide)) (g := (mkF m 45 #[.val (.ref a), .val (.ref tx), .val (.int 0), .val (.int n_), .val .null, .val (.ref bb88)] [(.int n_), (.ref bb88), (.ref a)])) rfl (by rw [hml]; rfl) (argsL := [(.ref bb88), (.int n_)]) (rest := [(.ref a)]) (lenOf pd_9 rfl) rfl (by show 2 * 0 + _ ≤ _; exact Nat.le_of_eq rfl) (hb hby d11_45) (fun _ _ => ⟨rfl, rfl, (by decide : 1 + 0 ≤ _), (by decide : 12 + 0 ≤ _)⟩)
  dsimp only [Pt.U, Pt.locs, Pt.cells, Pt.slots] at X91 l91 y91 z91 st91 hQ91
  obtain rfl : k91 = 1 := y91
  obtain rfl : n91 = 12 := z91
  obtain ⟨rfl, N91q, e91⟩ := hQ91
  have N91 : Fr n0 L91 := by rw [l91]; exact Fr.app N88 N91q
  have G93 : Go p e below A0 (T91.setTop (mkF m 48 #[.val (.ref a), .val (.ref tx), .val (.int 0), .val (.int n_), .val .null, .val (.ref bb88)] [(.int 0), (.ref a)])) := fun tq kq => G90 tq (st91 _ kq)
  have f94 := (E.keep K88)
  have f95 := (Fc0.keep K88 nin0)
  obtain ⟨T96, h96, X96, e96, W96, st96⟩ := putFN X91 hx hZ hown (wd hw 29 rfl) Via.refl e91 f95 f94 (Or.inr ⟨(wd hw 6 rfl), rfl, hnm⟩) (wd hw 3 rfl) (ty := .byte) (v' := (.int 0)) (by decide) rfl rfl (g := (mkF m 48 #[.val (.ref a), .val (.ref tx), .val (.int 0), .val (.int n_), .val .null, .val (.ref bb88)] [(.int 0), (.ref a)])) rfl rfl (hb hby d11_48)
  have N96 := Fr.snoc X96 N91 ga
  have fw96 := f95.same W96
  have G97 : Go p e below A0 (T96.setTop (mkF m 51 #[.val (.ref a), .val (.ref tx), .val (.int 0), .val (.int n_), .val .null, .val (.ref bb88)] [])) := fun tq kq => G93 tq (st96 _ kq)
  have G98 : Go p e below A0 (T96.setTop (mkF m 54 #[.val (.ref a), .val (.ref tx), .val (.int 0), .val (.int n_), .val .null, .val (.ref bb88)] [(.ref bb88), (.ref a)])) := fun tq kq => G97 tq (by
    refine XS.aloadN X96.here hx rfl (hb hby d11_51) rfl rfl ?_
    refine XS.aload X96.here hx rfl (hb hby d11_52) rfl rfl ?_
    exact kq)
  have f99 := (f94.wr W96)
  have f100 := ((Fv0.keep K88 nin0).other W96 (Or.inr (slot_ne (Or.inr (wd hw 5 rfl)) (Or.inr (wd hw 6 rfl)) (by decide) (t := (.array .byte)) (t' := .byte) (by decide) (by decide))))
  obtain ⟨T101, h101, X101, e101, W101, st101⟩ := putF X96 hx hZ hown (host := "") (Or.inl (wd hw 22 rfl)) Via.refl e96 f100 f99 (Or.inr ⟨(wd hw 5 rfl), rfl, hnm⟩) (wd hw 3 rfl) (ty := (.array .byte)) (by decide) rfl rfl (g := (mkF m 54 #[.val (.ref a), .val (.ref tx), .val (.int 0), .val (.int n_), .val .null, .val (.ref bb88)] [(.ref bb88), (.ref a)])) rfl rfl (hb hby d11_54)
  have N101 := Fr.snoc X101 N96 ga
  have fw101 := f100.same W101
  have G102 : Go p e below A0 (T101.setTop (mkF m 57 #[.val (.ref a), .val (.ref tx), .val (.int 0), .val (.int n_), .val .null, .val (.ref bb88)] [])) := fun tq kq => G98 tq (st101 _ kq)
  have f103 := (fw96.other W101 (Or.inr (slot_ne (Or.inr (wd hw 6 rfl)) (Or.inr (wd hw 5 rfl)) (by decide) (t := .byte) (t' := (.array .byte)) (by decide) (by decide))))
  have f104 := ((Ab88.other W96 (Ne.symm (Nat.ne_of_lt lt_a_bb88))).other W101 (Ne.symm (Nat.ne_of_lt lt_a_bb88)))
  obtain ⟨fs, hr, hrun, hended, hW, hsame⟩ := X101.leave (v := none) (fun _ => rfl)
  refine ⟨_, _, (by rw [← hA0]; exact G102 _ (X101.returnOut hx Bd.returns (hb hby d11_57) hr)), hrun, hended, _, _, rfl, ?_, ⟨_, rfl⟩, hW, hsame.mono (by decide) (by decide)⟩
  show Qi Z a n_ (fun j => .int (own_by (tf j))) h0 n0 _ T101.heap _
  rw [e101]
  exact ⟨rfl, N101, ((((Keep.refl h0 [a]).trans K88 all0).wr W96 (Or.inl (List.mem_of_getElem? (i := 0) rfl))).wr W101 (Or.inl (List.mem_of_getElem? (i := 0) rfl))), bb88, kk88, fw101, f103, f104⟩
set_option maxRecDepth 65536 in
set_option maxHeartbeats 40000000 in
theorem rmH (l : Launch) (Z : State) (a0 : Array Value) (hw : ∀ d ∈ tables_1, d.before a0 Z = true) (ws : List Jvm.Cond) (a tx : Addr) (kt : ClassId) (tf : Nat → Int32) (n_ : Int32) (cs : Int32) (fo : Value) (h0 : Heap) (n0 : Nat) (Z0 : n0 ≤ h0.size) (E : Exa Z h0 a "java/lang/String") (ga : n0 ≤ a) (Fv0 : Fld Z h0 a "java/lang/String" "value" "[B" .null) (Fc0 : Fld Z h0 a "java/lang/String" "coder" "B" (.int 0)) (At : Af Z h0 tx kt .char n_ (fun j => .int (tf j))) (hta : tx ≠ a) (hT : ∀ j, own_L (tf j)) (hn : own_N n_) (hCS : Sta Z Z.heap "java/lang/String" "COMPACT_STRINGS" "Z" (.int cs)) (hcs : ¬ cs = (0 : Int32)) (hSF : Sta Z Z.heap "jdk/internal/util/Preconditions" "SIOOBE_FORMATTER" "Ljava/util/function/BiFunction;" fo) (hfo : fo.isRef = true) (hold : Old Z n0 h0) :
    MetFree l (⟨"java/lang/String", "<init>", "([C)V"⟩ : MethodName) (head1 (Jvm.Cond.code (⟨"java/lang/String", "<init>", "([C)V"⟩ : MethodName) jdk_42_method_3_code 2 none :: ws) (Rm 3 1 12 52)) (fun aa UU => aa = #[(.ref a), (.ref tx)] ∧ Z.Warmed39 UU.vm ∧ UU.heap = h0) (fun _ _ _ _ _ => True) (fun _ UU oo U' => ∃ v L, oo = .returned v ∧ Qi Z a n_ (fun j => .int (own_by (tf j))) h0 n0 v U'.heap L ∧ FrameEnd UU oo U' L (Rm 3 1 12 52).cells (Rm 3 1 12 52).slots) := by
  refine MetFree.of_bodySF (plainFor_of_name pn_1) hisR ?_
  intro p e s m args below meth c s₁ Bd hml0 hP hK
  obtain ⟨rfl, hZ, hh⟩ := hP
  have hx := Bd.exec
  have hby := Bd.bytes
  have hml : c.maxLocals = 2 := hml0
  have hown : s.vm.findClass "java/lang/String" = some m.cls := findClass_of_methodNamed Bd.named
  have hnm := (name_of_methodNamed Bd.named Bd.method).1
  have X0 : Stand p l e (Rm 3 1 12 52) s m #[(.ref a), (.ref tx)] below meth c s₁ [] 0 0 := Stand.of_body Bd
  have e0 : s₁.heap = h0 := by rw [← hh, Bd.state]; rfl
  have N0 := Fr.nil n0
  obtain ⟨A0, hA0⟩ : ∃ A, A = s₁.setTop (entryFrame m #[(.ref a), (.ref tx)] 2) := ⟨_, rfl⟩
  have G0 : Go p e below A0 (s₁.setTop (mkF m 0 #[.val (.ref a), .val (.ref tx)] [])) := fun tq kq => by rw [hA0]; exact castTop (ef_rmH m a tx) kq
  have G105 : Go p e below A0 (s₁.setTop (mkF m 4 #[.val (.ref a), .val (.ref tx)] [(.ref tx), (.int 0), (.ref tx), (.ref a)])) := fun tq kq => G0 tq (by
    refine XS.aloadN X0.here hx rfl (hb hby d10_0) rfl rfl ?_
    refine XS.aloadN X0.here hx rfl (hb hby d10_1) rfl rfl ?_
    refine XS.iconst X0.here hx rfl (hb hby d10_2) ?_
    refine XS.aloadN X0.here hx rfl (hb hby d10_3) rfl rfl ?_
    exact kq)
  obtain ⟨cl106, Ar106, q106, S106, M106, H106⟩ := id At
  have G107 : Go p e below A0 (s₁.setTop (mkF m 6 #[.val (.ref a), .val (.ref tx)] [.null, (.int n_), (.int 0), (.ref tx), (.ref a)])) := fun tq kq => G105 tq (by
    refine X0.arraylength hx (by rw [e0]; exact Ar106.1) (State.isArrayOf_alike hZ.alike Ar106.2.1) (g := (mkF m 4 #[.val (.ref a), .val (.ref tx)] [(.ref tx), (.int 0), (.ref tx), (.ref a)])) rfl rfl (hb hby d10_4) _ ?_
    rw [len_of S106 M106]
    show Steps p.tables e below (s₁.setTop (mkF m 5 #[.val (.ref a), .val (.ref tx)] [(.int n_), (.int 0), (.ref tx), (.ref a)])) _
    refine XS.aconstNull X0.here hx rfl (hb hby d10_5) ?_
    exact kq)
  obtain ⟨_, _, ⟨T108, L108, k108, n108⟩, -, X108, ⟨Lc108, hQ108, l108, y108, z108⟩, st108⟩ := X0.specialBack hx (y := (⟨"java/lang/String", "<init>", "([CIILjava/lang/Void;)V"⟩ : MethodName)) rfl hown (mvT hZ (wd hw 56 rfl)) (mvT hZ (wd hw 57 rfl)) (mvT hZ (wd hw 59 rfl)) (by decide) (backOf (W := 0) (rmJ l Z a0 hw [] a tx kt tf n_ cs fo h0 n0 Z0 E ga Fv0 Fc0 At hta hT hn hCS hcs hSF hfo hold) hZ (wd hw 59 rfl) (wd hw 2 rfl) (by decide) (by decide)) (g := (mkF m 6 #[.val (.ref a), .val (.ref tx)] [.null, (.int n_), (.int 0), (.ref tx), (.ref a)])) rfl (by rw [hml]; rfl) (Steps.refl _) (a := a) (argsL := [(.ref tx), (.int 0), (.int n_), .null]) (rest := []) (lenOf pd_10 rfl) rfl (by show 2 * 0 + _ ≤ _; exact Nat.le_of_eq rfl) (hb hby d10_6) (fun _ _ => ⟨rfl, e0, (by decide : 0 + 1 ≤ _), (by decide : 0 + 12 ≤ _)⟩)
  dsimp only [Pt.U, Pt.locs, Pt.cells, Pt.slots] at X108 l108 y108 z108 st108 hQ108
  obtain rfl : k108 = 1 := y108
  obtain rfl : n108 = 12 := z108
  obtain ⟨rfl, N108q, K108, bb108, kk108, Fv108, Fc108, Ab108⟩ := hQ108
  have N108 : Fr n0 L108 := by rw [l108]; exact Fr.app N0 N108q
  have G109 : Go p e below A0 (T108.setTop (mkF m 9 #[.val (.ref a), .val (.ref tx)] [])) := fun tq kq => G107 tq (st108.trans kq)
  obtain ⟨fs, hr, hrun, hended, hW, hsame⟩ := X108.leave (v := none) (fun _ => rfl)
  refine ⟨_, _, (by rw [← hA0]; exact G109 _ (X108.returnOut hx Bd.returns (hb hby d10_9) hr)), hrun, hended, _, _, rfl, ?_, ⟨_, rfl⟩, hW, hsame.mono (by decide) (by decide)⟩
  show Qi Z a n_ (fun j => .int (own_by (tf j))) h0 n0 _ T108.heap _
  exact ⟨rfl, N108, ((Keep.refl h0 [a]).trans K108 (allS (P := fun x => x ∈ [a] ∨ h0.size ≤ x) (Or.inl (List.mem_of_getElem? (i := 0) rfl)) all0)), bb108, kk108, Fv108, Fc108, Ab108⟩
set_option maxRecDepth 65536 in
set_option maxHeartbeats 40000000 in
theorem rmJ0 (l : Launch) (Z : State) (a0 : Array Value) (hw : ∀ d ∈ tables_1, d.before a0 Z = true) (ws : List Jvm.Cond) (a tx : Addr) (kt : ClassId)  (cs : Int32) (fo : Value) (h0 : Heap) (n0 : Nat) (Z0 : n0 ≤ h0.size) (E : Exa Z h0 a "java/lang/String") (ga : n0 ≤ a) (Fv0 : Fld Z h0 a "java/lang/String" "value" "[B" .null) (Fc0 : Fld Z h0 a "java/lang/String" "coder" "B" (.int 0)) (At : Arv Z h0 tx kt .char (0 : Int32) [] (.int 0)) (hta : tx ≠ a) (hCS : Sta Z Z.heap "java/lang/String" "COMPACT_STRINGS" "Z" (.int cs)) (hcs : ¬ cs = (0 : Int32)) (hSF : Sta Z Z.heap "jdk/internal/util/Preconditions" "SIOOBE_FORMATTER" "Ljava/util/function/BiFunction;" fo) (hfo : fo.isRef = true) (hold : Old Z n0 h0) :
    MetFree l (⟨"java/lang/String", "<init>", "([CIILjava/lang/Void;)V"⟩ : MethodName) (head1 (Jvm.Cond.code (⟨"java/lang/String", "<init>", "([CIILjava/lang/Void;)V"⟩ : MethodName) jdk_42_method_149_code 6 none :: ws) (Rm 1 2 4 12)) (fun aa UU => aa = #[(.ref a), (.ref tx), (.int 0), (.int 0), .null] ∧ Z.Warmed39 UU.vm ∧ UU.heap = h0 ∧ CHv Z consts_1 UU.vm h0) (fun _ _ _ _ _ => True) (fun _ UU oo U' => ∃ v L, oo = .returned v ∧ Qi Z a (0 : Int32) (fun _ => .int (0 : Int32)) h0 n0 v U'.heap L ∧ ReturnedEndW UU oo U' L (Rm 1 2 4 12).cells (Rm 1 2 4 12).slots) := by
  refine MetFree.of_bodySF (plainFor_of_name pn_1) hisR ?_
  intro p e s m args below meth c s₁ Bd hml0 hP hK
  obtain ⟨rfl, hZ, hh, hCH⟩ := hP
  have hx := Bd.exec
  have hby := Bd.bytes
  have hml : c.maxLocals = 6 := hml0
  have hown : s.vm.findClass "java/lang/String" = some m.cls := findClass_of_methodNamed Bd.named
  have hnm := (name_of_methodNamed Bd.named Bd.method).1
  have X0 : Stand p l e (Rm 1 2 4 12) s m #[(.ref a), (.ref tx), (.int 0), (.int 0), .null] below meth c s₁ [] 0 0 := Stand.of_body Bd
  have e0 : s₁.heap = h0 := by rw [← hh, Bd.state]; rfl
  have N0 := Fr.nil n0
  obtain ⟨A0, hA0⟩ : ∃ A, A = s₁.setTop (entryFrame m #[(.ref a), (.ref tx), (.int 0), (.int 0), .null] 6) := ⟨_, rfl⟩
  have G0 : Go p e below A0 (s₁.setTop (mkF m 0 #[.val (.ref a), .val (.ref tx), .val (.int 0), .val (.int 0), .val .null, .unset] [])) := fun tq kq => by rw [hA0]; exact castTop (ef_rmJ0 m a tx (0 : Int32) (0 : Int32)) kq
  have hS : s.Since s.vm 0 := (State.WarmedH.refl s).since 0
  have hstr : ∀ d ∈ Bundle.stringAtoms, d.before a0 Z = true := fun d hd => hw d ((by decide +kernel : ∀ d ∈ Bundle.stringAtoms, d ∈ tables_1) d hd)
  have hEL : EW Z a0 consts_1 := (EW.cons (text := "dependent") (wd hw 1 rfl) (by decide) (EW.cons (text := "independent") (wd hw 105 rfl) (by decide) (EW.cons (text := "ndependent") (wd hw 120 rfl) (by decide) (EW.cons (text := "") (wd hw 112 rfl) (by decide) EW.nil))))
  have G110 : Go p e below A0 (s₁.setTop (mkF m 1 #[.val (.ref a), .val (.ref tx), .val (.int 0), .val (.int 0), .val .null, .unset] [(.ref a)])) := fun tq kq => G0 tq (by
    refine XS.aloadN X0.here hx rfl (hb hby d11_0) rfl rfl ?_
    exact kq)
  obtain ⟨T111, X111, e111, st111⟩ := initO X0 hx hZ hown (wd hw 60 rfl) (wd hw 61 rfl) (wd hw 62 rfl) e0 (g := (mkF m 1 #[.val (.ref a), .val (.ref tx), .val (.int 0), .val (.int 0), .val .null, .unset] [(.ref a)])) rfl (by rw [hml]; rfl) rfl (hb hby d11_1) (by decide) (W := 0) (by show 2 * 0 + _ ≤ _; exact Nat.le_of_eq rfl) (by decide)
  have G112 : Go p e below A0 (T111.setTop (mkF m 4 #[.val (.ref a), .val (.ref tx), .val (.int 0), .val (.int 0), .val .null, .unset] [])) := fun tq kq => G110 tq (st111 _ kq)
  have G113 : Go p e below A0 (T111.setTop (mkF m 9 #[.val (.ref a), .val (.ref tx), .val (.int 0), .val (.int 0), .val .null, .unset] [(.ref a)])) := fun tq kq => G112 tq (by
    refine XS.iloadN X111.here hx rfl (hb hby d11_4) rfl ?_
    refine XS.ifNo X111.here hx rfl (hb hby d11_5) rfl (by decide) ?_
    refine XS.aloadN X111.here hx rfl (hb hby d11_8) rfl rfl ?_
    exact kq)
  obtain ⟨a114, T114, h114, k114, b114, kb114, X114, e114, E114, hS, hk114, hZ, hown, Ea114, Fc114, Fv114, Ab114, -, -, CH114, Lt114, -, st114⟩ := ldcCH (s := s) (vm0 := s.vm) X111 hx hZ hown (wd hw 112 rfl) hstr e111 hS (Nat.zero_le h0.size) hEL (List.mem_of_getElem? (i := 3) rfl) hCH (vs := []) (z := (0 : Int32)) ⟨by decide, by decide⟩ (by decide) (by decide) (g := (mkF m 9 #[.val (.ref a), .val (.ref tx), .val (.int 0), .val (.int 0), .val .null, .unset] [(.ref a)])) rfl (hb hby d11_9) (n := 0) (by decide) (by decide) (by decide) (by decide)
  have G115 : Go p e below A0 (T114.setTop (mkF m 11 #[.val (.ref a), .val (.ref tx), .val (.int 0), .val (.int 0), .val .null, .unset] [(.ref a114), (.ref a)])) := fun tq kq => G113 tq (st114 _ kq)
  have f116 := (Fv0.ext E114)
  have f117 := (E.ext E114)
  have hnl : a ≠ a114 := own_fldne f116 Fv114 (by simp)
  obtain ⟨T118, X118, e118, st118⟩ := getF X114 hx hZ hown (host := "") (Or.inl (wd hw 22 rfl)) Via.refl e114 Fv114 (g := (mkF m 11 #[.val (.ref a), .val (.ref tx), .val (.int 0), .val (.int 0), .val .null, .unset] [(.ref a114), (.ref a)])) rfl rfl (hb hby d11_11)
  have G119 : Go p e below A0 (T118.setTop (mkF m 14 #[.val (.ref a), .val (.ref tx), .val (.int 0), .val (.int 0), .val .null, .unset] [(.ref b114), (.ref a)])) := fun tq kq => G115 tq (st118 _ kq)
  obtain ⟨T120, h120, X120, e120, W120, st120⟩ := putF X118 hx hZ hown (host := "") (Or.inl (wd hw 22 rfl)) Via.refl e118 f116 f117 (Or.inr ⟨(wd hw 5 rfl), rfl, hnm⟩) (wd hw 3 rfl) (ty := (.array .byte)) (by decide) rfl rfl (g := (mkF m 14 #[.val (.ref a), .val (.ref tx), .val (.int 0), .val (.int 0), .val .null, .unset] [(.ref b114), (.ref a)])) rfl rfl (hb hby d11_14)
  have N120 := Fr.snoc X120 N0 ga
  have fw120 := f116.same W120
  have G121 : Go p e below A0 (T120.setTop (mkF m 17 #[.val (.ref a), .val (.ref tx), .val (.int 0), .val (.int 0), .val .null, .unset] [])) := fun tq kq => G119 tq (st120 _ kq)
  have G122 : Go p e below A0 (T120.setTop (mkF m 18 #[.val (.ref a), .val (.ref tx), .val (.int 0), .val (.int 0), .val .null, .unset] [(.ref a)])) := fun tq kq => G121 tq (by
    refine XS.aloadN X120.here hx rfl (hb hby d11_17) rfl rfl ?_
    exact kq)
  have G124 : Go p e below A0 (T120.setTop (mkF m 20 #[.val (.ref a), .val (.ref tx), .val (.int 0), .val (.int 0), .val .null, .unset] [(.ref a114), (.ref a)])) := fun tq kq => G122 tq (ldcAgain (s := s) (vm0 := T114.vm) X120 hx hZ hown (wd hw 112 rfl) Lt114 (g := (mkF m 18 #[.val (.ref a), .val (.ref tx), .val (.int 0), .val (.int 0), .val .null, .unset] [(.ref a)])) rfl (hb hby d11_18) _ kq)
  have f125 := (Fc114.other W120 (Or.inl (Ne.symm hnl)))
  obtain ⟨T126, X126, e126, st126⟩ := getF X120 hx hZ hown (host := "") (Or.inl (wd hw 29 rfl)) Via.refl e120 f125 (g := (mkF m 20 #[.val (.ref a), .val (.ref tx), .val (.int 0), .val (.int 0), .val .null, .unset] [(.ref a114), (.ref a)])) rfl rfl (hb hby d11_20)
  have G127 : Go p e below A0 (T126.setTop (mkF m 23 #[.val (.ref a), .val (.ref tx), .val (.int 0), .val (.int 0), .val .null, .unset] [(.int 0), (.ref a)])) := fun tq kq => G124 tq (st126 _ kq)
  have f128 := (f117.wr W120)
  have f129 := ((Fc0.ext E114).other W120 (Or.inr (slot_ne (Or.inr (wd hw 6 rfl)) (Or.inr (wd hw 5 rfl)) (by decide) (t := .byte) (t' := (.array .byte)) (by decide) (by decide))))
  obtain ⟨T130, h130, X130, e130, W130, st130⟩ := putFN X126 hx hZ hown (wd hw 29 rfl) Via.refl e126 f129 f128 (Or.inr ⟨(wd hw 6 rfl), rfl, hnm⟩) (wd hw 3 rfl) (ty := .byte) (v' := (.int 0)) (by decide) rfl rfl (g := (mkF m 23 #[.val (.ref a), .val (.ref tx), .val (.int 0), .val (.int 0), .val .null, .unset] [(.int 0), (.ref a)])) rfl rfl (hb hby d11_23)
  have N130 := Fr.snoc X130 N120 ga
  have fw130 := f129.same W130
  have G131 : Go p e below A0 (T130.setTop (mkF m 26 #[.val (.ref a), .val (.ref tx), .val (.int 0), .val (.int 0), .val .null, .unset] [])) := fun tq kq => G127 tq (st130 _ kq)
  have f132 := (fw120.other W130 (Or.inr (slot_ne (Or.inr (wd hw 5 rfl)) (Or.inr (wd hw 6 rfl)) (by decide) (t := (.array .byte)) (t' := .byte) (by decide) (by decide))))
  have f133 := ((Ab114.other W120 (Ne.symm (own_arvne (wd hw 3 rfl) Ab114 f117))).other W130 (Ne.symm (own_arvne (wd hw 3 rfl) Ab114 f117)))
  have f134 := (Nat.le_trans (Nat.le_trans hk114 (Keep.of_wr W120).1) (Keep.of_wr W130).1)
  obtain ⟨fs, hr, hrun, hended, hRW⟩ := X130.leaveW (s := s) (vm₁ := T114.vm) hS (by rw [e130]; exact f134) (v := none) (fun _ => rfl)
  refine ⟨_, _, (by rw [← hA0]; exact G131 _ (X130.returnOut hx Bd.returns (hb hby d11_26) hr)), hrun, hended, _, _, rfl, ?_, hRW.1, hRW.2.1, hRW.2.2.1, hRW.2.2.2.mono (by decide) (by decide)⟩
  show Qi Z a (0 : Int32) (fun _ => .int (0 : Int32)) h0 n0 _ T130.heap _
  rw [e130]
  exact ⟨rfl, N130, ((((Keep.refl h0 [a]).ext E114).wr W120 (Or.inl (List.mem_of_getElem? (i := 0) rfl))).wr W130 (Or.inl (List.mem_of_getElem? (i := 0) rfl))), b114, kb114, f132, fw130, ((Af.of f133).fn (fun j hj => absurd hj (Nat.not_lt_zero j)))⟩
set_option maxRecDepth 65536 in
set_option maxHeartbeats 40000000 in
theorem rmH0 (l : Launch) (Z : State) (a0 : Array Value) (hw : ∀ d ∈ tables_1, d.before a0 Z = true) (ws : List Jvm.Cond) (a tx : Addr) (kt : ClassId)  (cs : Int32) (fo : Value) (h0 : Heap) (n0 : Nat) (Z0 : n0 ≤ h0.size) (E : Exa Z h0 a "java/lang/String") (ga : n0 ≤ a) (Fv0 : Fld Z h0 a "java/lang/String" "value" "[B" .null) (Fc0 : Fld Z h0 a "java/lang/String" "coder" "B" (.int 0)) (At : Arv Z h0 tx kt .char (0 : Int32) [] (.int 0)) (hta : tx ≠ a) (hCS : Sta Z Z.heap "java/lang/String" "COMPACT_STRINGS" "Z" (.int cs)) (hcs : ¬ cs = (0 : Int32)) (hSF : Sta Z Z.heap "jdk/internal/util/Preconditions" "SIOOBE_FORMATTER" "Ljava/util/function/BiFunction;" fo) (hfo : fo.isRef = true) (hold : Old Z n0 h0) :
    MetFree l (⟨"java/lang/String", "<init>", "([C)V"⟩ : MethodName) (head1 (Jvm.Cond.code (⟨"java/lang/String", "<init>", "([C)V"⟩ : MethodName) jdk_42_method_3_code 2 none :: ws) (Rm 2 2 4 29)) (fun aa UU => aa = #[(.ref a), (.ref tx)] ∧ Z.Warmed39 UU.vm ∧ UU.heap = h0 ∧ CHv Z consts_1 UU.vm h0) (fun _ _ _ _ _ => True) (fun _ UU oo U' => ∃ v L, oo = .returned v ∧ Qi Z a (0 : Int32) (fun _ => .int (0 : Int32)) h0 n0 v U'.heap L ∧ ReturnedEndW UU oo U' L (Rm 2 2 4 29).cells (Rm 2 2 4 29).slots) := by
  refine MetFree.of_bodySF (plainFor_of_name pn_1) hisR ?_
  intro p e s m args below meth c s₁ Bd hml0 hP hK
  obtain ⟨rfl, hZ, hh, hCH⟩ := hP
  have hx := Bd.exec
  have hby := Bd.bytes
  have hml : c.maxLocals = 2 := hml0
  have hown : s.vm.findClass "java/lang/String" = some m.cls := findClass_of_methodNamed Bd.named
  have hnm := (name_of_methodNamed Bd.named Bd.method).1
  have X0 : Stand p l e (Rm 2 2 4 29) s m #[(.ref a), (.ref tx)] below meth c s₁ [] 0 0 := Stand.of_body Bd
  have e0 : s₁.heap = h0 := by rw [← hh, Bd.state]; rfl
  have N0 := Fr.nil n0
  obtain ⟨A0, hA0⟩ : ∃ A, A = s₁.setTop (entryFrame m #[(.ref a), (.ref tx)] 2) := ⟨_, rfl⟩
  have G0 : Go p e below A0 (s₁.setTop (mkF m 0 #[.val (.ref a), .val (.ref tx)] [])) := fun tq kq => by rw [hA0]; exact castTop (ef_rmH0 m a tx) kq
  have hS : s.Since s.vm 0 := (State.WarmedH.refl s).since 0
  have hstr : ∀ d ∈ Bundle.stringAtoms, d.before a0 Z = true := fun d hd => hw d ((by decide +kernel : ∀ d ∈ Bundle.stringAtoms, d ∈ tables_1) d hd)
  have hEL : EW Z a0 consts_1 := (EW.cons (text := "dependent") (wd hw 1 rfl) (by decide) (EW.cons (text := "independent") (wd hw 105 rfl) (by decide) (EW.cons (text := "ndependent") (wd hw 120 rfl) (by decide) (EW.cons (text := "") (wd hw 112 rfl) (by decide) EW.nil))))
  have G135 : Go p e below A0 (s₁.setTop (mkF m 4 #[.val (.ref a), .val (.ref tx)] [(.ref tx), (.int 0), (.ref tx), (.ref a)])) := fun tq kq => G0 tq (by
    refine XS.aloadN X0.here hx rfl (hb hby d10_0) rfl rfl ?_
    refine XS.aloadN X0.here hx rfl (hb hby d10_1) rfl rfl ?_
    refine XS.iconst X0.here hx rfl (hb hby d10_2) ?_
    refine XS.aloadN X0.here hx rfl (hb hby d10_3) rfl rfl ?_
    exact kq)
  obtain ⟨cl136, Ar136, q136, S136, M136, H136, Gf136⟩ := id At
  have G137 : Go p e below A0 (s₁.setTop (mkF m 6 #[.val (.ref a), .val (.ref tx)] [.null, (.int 0), (.int 0), (.ref tx), (.ref a)])) := fun tq kq => G135 tq (by
    refine X0.arraylength hx (by rw [e0]; exact Ar136.1) (State.isArrayOf_alike hZ.alike Ar136.2.1) (g := (mkF m 4 #[.val (.ref a), .val (.ref tx)] [(.ref tx), (.int 0), (.ref tx), (.ref a)])) rfl rfl (hb hby d10_4) _ ?_
    rw [len_of S136 M136]
    show Steps p.tables e below (s₁.setTop (mkF m 5 #[.val (.ref a), .val (.ref tx)] [(.int 0), (.int 0), (.ref tx), (.ref a)])) _
    refine XS.aconstNull X0.here hx rfl (hb hby d10_5) ?_
    exact kq)
  obtain ⟨_, vq138, ⟨T138, L138, k138, n138⟩, -, X138, hS138, hle138, ⟨Lc138, hQ138, l138, y138, z138⟩, st138⟩ := Stand.specialBackS (s := s.setVm s.vm) X0 hx (y := (⟨"java/lang/String", "<init>", "([CIILjava/lang/Void;)V"⟩ : MethodName)) rfl hown (mvT hZ (wd hw 56 rfl)) (mvT hZ (wd hw 57 rfl)) (mvT hZ (wd hw 59 rfl)) (by decide) (own_backC (s := s) (vm0 := s.vm) (EL := consts_1) (W := 0) (rmJ0 l Z a0 hw [] a tx kt   cs fo h0 n0 Z0 E ga Fv0 Fc0 At hta   hCS hcs hSF hfo hold) hZ (wd hw 59 rfl) (wd hw 2 rfl) (by decide) (by decide) hEL hCH) (g := (mkF m 6 #[.val (.ref a), .val (.ref tx)] [.null, (.int 0), (.int 0), (.ref tx), (.ref a)])) rfl (by rw [hml]; rfl) (Steps.refl _) (a := a) (argsL := [(.ref tx), (.int 0), (.int 0), .null]) (rest := []) (lenOf pd_10 rfl) rfl (by show 2 * 0 + _ ≤ _; exact Nat.le_of_eq rfl) (hb hby d10_6) (fun _ _ => ⟨rfl, e0, (by decide : 0 + 2 ≤ _), (by decide : 0 + 4 ≤ _)⟩)
  dsimp only [Pt.U, Pt.locs, Pt.cells, Pt.slots] at X138 l138 y138 z138 st138 hQ138 hS138 hle138
  obtain rfl : k138 = 2 := y138
  obtain rfl : n138 = 4 := z138
  have hZ : Z.Warmed39 T138.vm := State.Warmed39.trans (t := s.setVm s.vm) hZ hS138.1
  have hown : (s.setVm T138.vm).vm.findClass "java/lang/String" = some m.cls := by show T138.vm.findClass _ = _; rw [hS138.1.alike.findClass]; exact hown
  have hS := hS138
  obtain ⟨rfl, N138q, K138, bb138, kk138, Fv138, Fc138, Ab138⟩ := hQ138
  have N138 : Fr n0 L138 := by rw [l138]; exact Fr.app N0 N138q
  have G139 : Go p e below A0 (T138.setTop (mkF m 9 #[.val (.ref a), .val (.ref tx)] [])) := fun tq kq => G137 tq (st138.trans kq)
  obtain ⟨fs, hr, hrun, hended, hRW⟩ := X138.leaveW (s := s) (vm₁ := T138.vm) hS (Nat.le_refl _) (v := none) (fun _ => rfl)
  refine ⟨_, _, (by rw [← hA0]; exact G139 _ (X138.returnOut hx Bd.returns (hb hby d10_9) hr)), hrun, hended, _, _, rfl, ?_, hRW.1, hRW.2.1, hRW.2.2.1, hRW.2.2.2.mono (by decide) (by decide)⟩
  show Qi Z a (0 : Int32) (fun _ => .int (0 : Int32)) h0 n0 _ T138.heap _
  exact ⟨rfl, N138, ((Keep.refl h0 [a]).trans K138 (allS (P := fun x => x ∈ [a] ∨ h0.size ≤ x) (Or.inl (List.mem_of_getElem? (i := 0) rfl)) all0)), bb138, kk138, Fv138, Fc138, Ab138⟩
def Qw (Z : State) (n_ : Int32) (cf : Nat → Int32) (h0 : Heap) (n0 : Nat) (v : Option Value) (h : Heap) (L : List Loc) : Prop := ∃ a b kb, v = some (.ref a) ∧ Fr n0 L ∧ Keep h0 h [] ∧ n0 ≤ a ∧ Exa Z h a "java/lang/String" ∧ Fld Z h a "java/lang/String" "value" "[B" (.ref b) ∧ Fld Z h a "java/lang/String" "coder" "B" (.int 0) ∧ Af Z h b kb .byte n_ (fun j => .int (own_by (cf j)))
set_option maxRecDepth 65536 in
set_option maxHeartbeats 40000000 in
theorem rmW9 (l : Launch) (Z : State) (a0 : Array Value) (hw : ∀ d ∈ tables_1, d.before a0 Z = true) (ws : List Jvm.Cond) (a b : Addr) (kb : ClassId) (cf : Nat → Int32) (n_ pp rr : Int32) (cs : Int32) (fo : Value) (h0 : Heap) (n0 : Nat) (Z0 : n0 ≤ h0.size) (E : Exa Z h0 a "java/lang/String") (Fv : Fld Z h0 a "java/lang/String" "value" "[B" (.ref b)) (Fc : Fld Z h0 a "java/lang/String" "coder" "B" (.int 0)) (Ab : Af Z h0 b kb .byte n_ (fun j => .int (own_by (cf j)))) (hB : ∀ j, own_L (cf j)) (hlr : own_L rr) (hCS : Sta Z Z.heap "java/lang/String" "COMPACT_STRINGS" "Z" (.int cs)) (hcs : ¬ cs = (0 : Int32)) (hSF : Sta Z Z.heap "jdk/internal/util/Preconditions" "SIOOBE_FORMATTER" "Ljava/util/function/BiFunction;" fo) (hfo : fo.isRef = true) (hold : Old Z n0 h0) :
    MetFree l (⟨"com/example/role_delegation/roledelegation/RevocationKindNamedPinLaw", "w9", "(Ljava/lang/String;IC)Ljava/lang/String;"⟩ : MethodName) (head1 (Jvm.Cond.code (⟨"com/example/role_delegation/roledelegation/RevocationKindNamedPinLaw", "w9", "(Ljava/lang/String;IC)Ljava/lang/String;"⟩ : MethodName) method_5_code 4 (some (.object "java/lang/String")) :: ws) (Rm 5 3 25 70)) (fun aa UU => aa = #[(.ref a), (.int pp), (.int rr)] ∧ Z.Warmed39 UU.vm ∧ UU.heap = h0) (fun _ _ _ _ _ => True) (fun _ UU oo U' => ∃ v L, oo = .returned v ∧ Qw Z (9 : Int32) (own_gw cf n_ pp rr) h0 n0 v U'.heap L ∧ FrameEnd UU oo U' L (Rm 5 3 25 70).cells (Rm 5 3 25 70).slots) := by
  refine MetFree.of_bodySF (plainFor_of_name pn_3) hisR ?_
  intro p e s m args below meth c s₁ Bd hml0 hP hK
  obtain ⟨rfl, hZ, hh⟩ := hP
  have hx := Bd.exec
  have hby := Bd.bytes
  have hml : c.maxLocals = 4 := hml0
  have hown : s.vm.findClass "com/example/role_delegation/roledelegation/RevocationKindNamedPinLaw" = some m.cls := findClass_of_methodNamed Bd.named
  have hnm := (name_of_methodNamed Bd.named Bd.method).1
  have X0 : Stand p l e (Rm 5 3 25 70) s m #[(.ref a), (.int pp), (.int rr)] below meth c s₁ [] 0 0 := Stand.of_body Bd
  have e0 : s₁.heap = h0 := by rw [← hh, Bd.state]; rfl
  have N0 := Fr.nil n0
  obtain ⟨A0, hA0⟩ : ∃ A, A = s₁.setTop (entryFrame m #[(.ref a), (.int pp), (.int rr)] 4) := ⟨_, rfl⟩
  have G0 : Go p e below A0 (s₁.setTop (mkF m 0 #[.val (.ref a), .val (.int pp), .val (.int rr), .unset] [])) := fun tq kq => by rw [hA0]; exact castTop (ef_rmW9 m a pp rr) kq
  have G140 : Go p e below A0 (s₁.setTop (mkF m 2 #[.val (.ref a), .val (.int pp), .val (.int rr), .unset] [(.int 9)])) := fun tq kq => G0 tq (by
    refine XS.bipush X0.here hx rfl (hb hby d1_0) ?_
    exact kq)
  obtain ⟨T141, h141, k141, X141, e141, E141, A141, st141⟩ := newP X0 hx hZ (wd hw 13 rfl) e0 (g := (mkF m 2 #[.val (.ref a), .val (.int pp), .val (.int rr), .unset] [(.int 9)])) rfl (hb hby d1_2) rfl (by decide) (cap := 9) (by decide) (by decide) (by decide) (by decide)
  obtain ⟨b141, g141⟩ : ∃ z, z = h0.size := ⟨_, rfl⟩
  rw [← g141] at A141 st141
  have sz_b141 : h0.size ≤ b141 := Nat.le_trans (Nat.le_refl h0.size) (Nat.le_of_eq g141.symm)
  have g_b141 : n0 ≤ b141 := Nat.le_trans Z0 (Nat.le_of_eq g141.symm)
  have lt_a_b141 : a < b141 := Nat.lt_of_lt_of_le E.lt (Nat.le_of_eq g141.symm)
  have lt_b_b141 : b < b141 := Nat.lt_of_lt_of_le Ab.lt (Nat.le_of_eq g141.symm)
  have V141 : Arv Z h141 b141 k141 .char (9 : Int32) [(.int 0), (.int 0), (.int 0), (.int 0), (.int 0), (.int 0), (.int 0), (.int 0), (.int 0)] (.int 0) := (Arv.new A141 (by decide)).pad (pad_rep [] (.int 0) 9)
  have G142 : Go p e below A0 (T141.setTop (mkF m 4 #[.val (.ref a), .val (.int pp), .val (.int rr), .unset] [(.ref b141)])) := fun tq kq => G140 tq (st141 _ kq)
  have G143 : Go p e below A0 (T141.setTop (mkF m 11 #[.val (.ref a), .val (.int pp), .val (.int rr), .val (.ref b141)] [(.int rr), (.int pp), (.int 0), (.ref a), (.int 0), (.ref b141)])) := fun tq kq => G142 tq (by
    refine XS.astoreN X141.here hx rfl (hb hby d1_4) rfl rfl (l' := #[.val (.ref a), .val (.int pp), .val (.int rr), .val (.ref b141)]) rfl ?_
    refine XS.aloadN X141.here hx rfl (hb hby d1_5) rfl rfl ?_
    refine XS.iconst X141.here hx rfl (hb hby d1_6) ?_
    refine XS.aloadN X141.here hx rfl (hb hby d1_7) rfl rfl ?_
    refine XS.iconst X141.here hx rfl (hb hby d1_8) ?_
    refine XS.iloadN X141.here hx rfl (hb hby d1_9) rfl ?_
    refine XS.iloadN X141.here hx rfl (hb hby d1_10) rfl ?_
    exact kq)
  obtain ⟨u0, eu0⟩ : ∃ q, q = own_gv cf n_ (0 : Int32) pp rr := ⟨_, rfl⟩
  have lu0 := own_gvL eu0 hB hlr
  have f145 := (E.ext E141)
  have f146 := (Fv.ext E141)
  have f147 := (Fc.ext E141)
  have f148 := (Ab.ext E141)
  have f149 := (Nat.le_trans Z0 E141.1)
  have f150 := (hold.ext E141)
  obtain ⟨_, _, ⟨T144, L144, k144, n144⟩, -, X144, ⟨Lc144, hQ144, l144, y144, z144⟩, st144⟩ := Jvm.LawKit.callS X141 hx (y := (⟨"com/example/role_delegation/roledelegation/RevocationKindNamedPinLaw", "g", "(Ljava/lang/String;IIC)C"⟩ : MethodName)) hown (mvT hZ (wd hw 14 rfl)) (mvT hZ (wd hw 15 rfl)) (mvT hZ (wd hw 11 rfl)) (mvT hZ (wd hw 16 rfl)) (by decide) (backOf (W := 2) (rmG l Z a0 hw [] a b kb cf (0 : Int32) n_ pp rr u0 cs fo h141 n0 f149 f145 f146 f147 f148 hB hlr (by decide) eu0 hCS hcs hSF hfo f150) hZ (wd hw 16 rfl) (wd hw 11 rfl) (by decide) (by decide)) (g := (mkF m 11 #[.val (.ref a), .val (.int pp), .val (.int rr), .val (.ref b141)] [(.int rr), (.int pp), (.int 0), (.ref a), (.int 0), (.ref b141)])) rfl (by rw [hml]; rfl) (argsL := [(.ref a), (.int 0), (.int pp), (.int rr)]) (rest := [(.int 0), (.ref b141)]) (lenOf pd_11 rfl) rfl (by show 2 * 0 + _ ≤ _; exact Nat.le_of_eq rfl) (hb hby d1_11) (fun _ _ => ⟨rfl, e141, (by decide : 1 + 0 ≤ _), (by decide : 9 + 0 ≤ _)⟩)
  dsimp only [Pt.U, Pt.locs, Pt.cells, Pt.slots] at X144 l144 y144 z144 st144 hQ144
  obtain rfl : k144 = 1 := y144
  obtain rfl : n144 = 9 := z144
  obtain ⟨rfl, N144q, e144⟩ := hQ144
  have N144 : Fr n0 L144 := by rw [l144]; exact Fr.app N0 N144q
  have G151 : Go p e below A0 (T144.setTop (mkF m 14 #[.val (.ref a), .val (.int pp), .val (.int rr), .val (.ref b141)] [(.int u0), (.int 0), (.ref b141)])) := fun tq kq => G143 tq (st144 _ kq)
  obtain ⟨cl152, Ar152, q152, S152, M152, H152, Gf152⟩ := id V141
  have hi153 : ¬ ((0 : Int32) < 0 ∨ cl152.slots.size ≤ ((0 : Int32)).toNatClampNeg) := (inb_of S152 ⟨by decide, by decide⟩)
  obtain ⟨T154, h154, X154, e154, W154, st154⟩ := stC X144 hx hZ e144 Ar152 (j := (0 : Int32)) hi153 (g := (mkF m 14 #[.val (.ref a), .val (.int pp), .val (.int rr), .val (.ref b141)] [(.int u0), (.int 0), (.ref b141)])) rfl rfl (hb hby d1_14)
  rw [show nar .char u0 = u0 from own_nC lu0.R] at W154
  have N154 := Fr.snoc X154 N144 g_b141
  have V154 := Arv.set Ar152 q152 S152 M152 H152 Gf152 (own_fC lu0.R) W154 0 rfl (Nat.le_of_ble_eq_true rfl)
  have V154' : Arv Z h154 b141 k141 .char (9 : Int32) [(.int u0), (.int 0), (.int 0), (.int 0), (.int 0), (.int 0), (.int 0), (.int 0), (.int 0)] (.int 0) := by exact V154
  have G155 : Go p e below A0 (T154.setTop (mkF m 15 #[.val (.ref a), .val (.int pp), .val (.int rr), .val (.ref b141)] [])) := fun tq kq => G151 tq (st154 _ kq)
  have G156 : Go p e below A0 (T154.setTop (mkF m 21 #[.val (.ref a), .val (.int pp), .val (.int rr), .val (.ref b141)] [(.int rr), (.int pp), (.int 1), (.ref a), (.int 1), (.ref b141)])) := fun tq kq => G155 tq (by
    refine XS.aloadN X154.here hx rfl (hb hby d1_15) rfl rfl ?_
    refine XS.iconst X154.here hx rfl (hb hby d1_16) ?_
    refine XS.aloadN X154.here hx rfl (hb hby d1_17) rfl rfl ?_
    refine XS.iconst X154.here hx rfl (hb hby d1_18) ?_
    refine XS.iloadN X154.here hx rfl (hb hby d1_19) rfl ?_
    refine XS.iloadN X154.here hx rfl (hb hby d1_20) rfl ?_
    exact kq)
  obtain ⟨u1, eu1⟩ : ∃ q, q = own_gv cf n_ (1 : Int32) pp rr := ⟨_, rfl⟩
  have lu1 := own_gvL eu1 hB hlr
  have f158 := (f145.wr W154)
  have f159 := (f146.other W154 (Or.inl (Nat.ne_of_lt lt_a_b141)))
  have f160 := (f147.other W154 (Or.inl (Nat.ne_of_lt lt_a_b141)))
  have f161 := (f148.other W154 (Nat.ne_of_lt lt_b_b141))
  have f162 := (Nat.le_trans f149 (Keep.of_wr W154).1)
  have f163 := (f150.wr W154 g_b141)
  obtain ⟨_, _, ⟨T157, L157, k157, n157⟩, -, X157, ⟨Lc157, hQ157, l157, y157, z157⟩, st157⟩ := Jvm.LawKit.callS X154 hx (y := (⟨"com/example/role_delegation/roledelegation/RevocationKindNamedPinLaw", "g", "(Ljava/lang/String;IIC)C"⟩ : MethodName)) hown (mvT hZ (wd hw 14 rfl)) (mvT hZ (wd hw 15 rfl)) (mvT hZ (wd hw 11 rfl)) (mvT hZ (wd hw 16 rfl)) (by decide) (backOf (W := 2) (rmG l Z a0 hw [] a b kb cf (1 : Int32) n_ pp rr u1 cs fo h154 n0 f162 f158 f159 f160 f161 hB hlr (by decide) eu1 hCS hcs hSF hfo f163) hZ (wd hw 16 rfl) (wd hw 11 rfl) (by decide) (by decide)) (g := (mkF m 21 #[.val (.ref a), .val (.int pp), .val (.int rr), .val (.ref b141)] [(.int rr), (.int pp), (.int 1), (.ref a), (.int 1), (.ref b141)])) rfl (by rw [hml]; rfl) (argsL := [(.ref a), (.int 1), (.int pp), (.int rr)]) (rest := [(.int 1), (.ref b141)]) (lenOf pd_11 rfl) rfl (by show 2 * 0 + _ ≤ _; exact Nat.le_of_eq rfl) (hb hby d1_21) (fun _ _ => ⟨rfl, e154, (by decide : 1 + 0 ≤ _), (by decide : 9 + 0 ≤ _)⟩)
  dsimp only [Pt.U, Pt.locs, Pt.cells, Pt.slots] at X157 l157 y157 z157 st157 hQ157
  obtain rfl : k157 = 1 := y157
  obtain rfl : n157 = 9 := z157
  obtain ⟨rfl, N157q, e157⟩ := hQ157
  have N157 : Fr n0 L157 := by rw [l157]; exact Fr.app N154 N157q
  have G164 : Go p e below A0 (T157.setTop (mkF m 24 #[.val (.ref a), .val (.int pp), .val (.int rr), .val (.ref b141)] [(.int u1), (.int 1), (.ref b141)])) := fun tq kq => G156 tq (st157 _ kq)
  obtain ⟨cl165, Ar165, q165, S165, M165, H165, Gf165⟩ := id V154'
  have hi166 : ¬ ((1 : Int32) < 0 ∨ cl165.slots.size ≤ ((1 : Int32)).toNatClampNeg) := (inb_of S165 ⟨by decide, by decide⟩)
  obtain ⟨T167, h167, X167, e167, W167, st167⟩ := stC X157 hx hZ e157 Ar165 (j := (1 : Int32)) hi166 (g := (mkF m 24 #[.val (.ref a), .val (.int pp), .val (.int rr), .val (.ref b141)] [(.int u1), (.int 1), (.ref b141)])) rfl rfl (hb hby d1_24)
  rw [show nar .char u1 = u1 from own_nC lu1.R] at W167
  have N167 := Fr.snoc X167 N157 g_b141
  have V167 := Arv.set Ar165 q165 S165 M165 H165 Gf165 (own_fC lu1.R) W167 1 rfl (Nat.le_of_ble_eq_true rfl)
  have V167' : Arv Z h167 b141 k141 .char (9 : Int32) [(.int u0), (.int u1), (.int 0), (.int 0), (.int 0), (.int 0), (.int 0), (.int 0), (.int 0)] (.int 0) := by exact V167
  have G168 : Go p e below A0 (T167.setTop (mkF m 25 #[.val (.ref a), .val (.int pp), .val (.int rr), .val (.ref b141)] [])) := fun tq kq => G164 tq (st167 _ kq)
  have G169 : Go p e below A0 (T167.setTop (mkF m 31 #[.val (.ref a), .val (.int pp), .val (.int rr), .val (.ref b141)] [(.int rr), (.int pp), (.int 2), (.ref a), (.int 2), (.ref b141)])) := fun tq kq => G168 tq (by
    refine XS.aloadN X167.here hx rfl (hb hby d1_25) rfl rfl ?_
    refine XS.iconst X167.here hx rfl (hb hby d1_26) ?_
    refine XS.aloadN X167.here hx rfl (hb hby d1_27) rfl rfl ?_
    refine XS.iconst X167.here hx rfl (hb hby d1_28) ?_
    refine XS.iloadN X167.here hx rfl (hb hby d1_29) rfl ?_
    refine XS.iloadN X167.here hx rfl (hb hby d1_30) rfl ?_
    exact kq)
  obtain ⟨u2, eu2⟩ : ∃ q, q = own_gv cf n_ (2 : Int32) pp rr := ⟨_, rfl⟩
  have lu2 := own_gvL eu2 hB hlr
  have f171 := (f158.wr W167)
  have f172 := (f159.other W167 (Or.inl (Nat.ne_of_lt lt_a_b141)))
  have f173 := (f160.other W167 (Or.inl (Nat.ne_of_lt lt_a_b141)))
  have f174 := (f161.other W167 (Nat.ne_of_lt lt_b_b141))
  have f175 := (Nat.le_trans f162 (Keep.of_wr W167).1)
  have f176 := (f163.wr W167 g_b141)
  obtain ⟨_, _, ⟨T170, L170, k170, n170⟩, -, X170, ⟨Lc170, hQ170, l170, y170, z170⟩, st170⟩ := Jvm.LawKit.callS X167 hx (y := (⟨"com/example/role_delegation/roledelegation/RevocationKindNamedPinLaw", "g", "(Ljava/lang/String;IIC)C"⟩ : MethodName)) hown (mvT hZ (wd hw 14 rfl)) (mvT hZ (wd hw 15 rfl)) (mvT hZ (wd hw 11 rfl)) (mvT hZ (wd hw 16 rfl)) (by decide) (backOf (W := 2) (rmG l Z a0 hw [] a b kb cf (2 : Int32) n_ pp rr u2 cs fo h167 n0 f175 f171 f172 f173 f174 hB hlr (by decide) eu2 hCS hcs hSF hfo f176) hZ (wd hw 16 rfl) (wd hw 11 rfl) (by decide) (by decide)) (g := (mkF m 31 #[.val (.ref a), .val (.int pp), .val (.int rr), .val (.ref b141)] [(.int rr), (.int pp), (.int 2), (.ref a), (.int 2), (.ref b141)])) rfl (by rw [hml]; rfl) (argsL := [(.ref a), (.int 2), (.int pp), (.int rr)]) (rest := [(.int 2), (.ref b141)]) (lenOf pd_11 rfl) rfl (by show 2 * 0 + _ ≤ _; exact Nat.le_of_eq rfl) (hb hby d1_31) (fun _ _ => ⟨rfl, e167, (by decide : 1 + 0 ≤ _), (by decide : 9 + 0 ≤ _)⟩)
  dsimp only [Pt.U, Pt.locs, Pt.cells, Pt.slots] at X170 l170 y170 z170 st170 hQ170
  obtain rfl : k170 = 1 := y170
  obtain rfl : n170 = 9 := z170
  obtain ⟨rfl, N170q, e170⟩ := hQ170
  have N170 : Fr n0 L170 := by rw [l170]; exact Fr.app N167 N170q
  have G177 : Go p e below A0 (T170.setTop (mkF m 34 #[.val (.ref a), .val (.int pp), .val (.int rr), .val (.ref b141)] [(.int u2), (.int 2), (.ref b141)])) := fun tq kq => G169 tq (st170 _ kq)
  obtain ⟨cl178, Ar178, q178, S178, M178, H178, Gf178⟩ := id V167'
  have hi179 : ¬ ((2 : Int32) < 0 ∨ cl178.slots.size ≤ ((2 : Int32)).toNatClampNeg) := (inb_of S178 ⟨by decide, by decide⟩)
  obtain ⟨T180, h180, X180, e180, W180, st180⟩ := stC X170 hx hZ e170 Ar178 (j := (2 : Int32)) hi179 (g := (mkF m 34 #[.val (.ref a), .val (.int pp), .val (.int rr), .val (.ref b141)] [(.int u2), (.int 2), (.ref b141)])) rfl rfl (hb hby d1_34)
  rw [show nar .char u2 = u2 from own_nC lu2.R] at W180
  have N180 := Fr.snoc X180 N170 g_b141
  have V180 := Arv.set Ar178 q178 S178 M178 H178 Gf178 (own_fC lu2.R) W180 2 rfl (Nat.le_of_ble_eq_true rfl)
  have V180' : Arv Z h180 b141 k141 .char (9 : Int32) [(.int u0), (.int u1), (.int u2), (.int 0), (.int 0), (.int 0), (.int 0), (.int 0), (.int 0)] (.int 0) := by exact V180
  have G181 : Go p e below A0 (T180.setTop (mkF m 35 #[.val (.ref a), .val (.int pp), .val (.int rr), .val (.ref b141)] [])) := fun tq kq => G177 tq (st180 _ kq)
  have G182 : Go p e below A0 (T180.setTop (mkF m 41 #[.val (.ref a), .val (.int pp), .val (.int rr), .val (.ref b141)] [(.int rr), (.int pp), (.int 3), (.ref a), (.int 3), (.ref b141)])) := fun tq kq => G181 tq (by
    refine XS.aloadN X180.here hx rfl (hb hby d1_35) rfl rfl ?_
    refine XS.iconst X180.here hx rfl (hb hby d1_36) ?_
    refine XS.aloadN X180.here hx rfl (hb hby d1_37) rfl rfl ?_
    refine XS.iconst X180.here hx rfl (hb hby d1_38) ?_
    refine XS.iloadN X180.here hx rfl (hb hby d1_39) rfl ?_
    refine XS.iloadN X180.here hx rfl (hb hby d1_40) rfl ?_
    exact kq)
  obtain ⟨u3, eu3⟩ : ∃ q, q = own_gv cf n_ (3 : Int32) pp rr := ⟨_, rfl⟩
  have lu3 := own_gvL eu3 hB hlr
  have f184 := (f171.wr W180)
  have f185 := (f172.other W180 (Or.inl (Nat.ne_of_lt lt_a_b141)))
  have f186 := (f173.other W180 (Or.inl (Nat.ne_of_lt lt_a_b141)))
  have f187 := (f174.other W180 (Nat.ne_of_lt lt_b_b141))
  have f188 := (Nat.le_trans f175 (Keep.of_wr W180).1)
  have f189 := (f176.wr W180 g_b141)
  obtain ⟨_, _, ⟨T183, L183, k183, n183⟩, -, X183, ⟨Lc183, hQ183, l183, y183, z183⟩, st183⟩ := Jvm.LawKit.callS X180 hx (y := (⟨"com/example/role_delegation/roledelegation/RevocationKindNamedPinLaw", "g", "(Ljava/lang/String;IIC)C"⟩ : MethodName)) hown (mvT hZ (wd hw 14 rfl)) (mvT hZ (wd hw 15 rfl)) (mvT hZ (wd hw 11 rfl)) (mvT hZ (wd hw 16 rfl)) (by decide) (backOf (W := 2) (rmG l Z a0 hw [] a b kb cf (3 : Int32) n_ pp rr u3 cs fo h180 n0 f188 f184 f185 f186 f187 hB hlr (by decide) eu3 hCS hcs hSF hfo f189) hZ (wd hw 16 rfl) (wd hw 11 rfl) (by decide) (by decide)) (g := (mkF m 41 #[.val (.ref a), .val (.int pp), .val (.int rr), .val (.ref b141)] [(.int rr), (.int pp), (.int 3), (.ref a), (.int 3), (.ref b141)])) rfl (by rw [hml]; rfl) (argsL := [(.ref a), (.int 3), (.int pp), (.int rr)]) (rest := [(.int 3), (.ref b141)]) (lenOf pd_11 rfl) rfl (by show 2 * 0 + _ ≤ _; exact Nat.le_of_eq rfl) (hb hby d1_41) (fun _ _ => ⟨rfl, e180, (by decide : 1 + 0 ≤ _), (by decide : 9 + 0 ≤ _)⟩)
  dsimp only [Pt.U, Pt.locs, Pt.cells, Pt.slots] at X183 l183 y183 z183 st183 hQ183
  obtain rfl : k183 = 1 := y183
  obtain rfl : n183 = 9 := z183
  obtain ⟨rfl, N183q, e183⟩ := hQ183
  have N183 : Fr n0 L183 := by rw [l183]; exact Fr.app N180 N183q
  have G190 : Go p e below A0 (T183.setTop (mkF m 44 #[.val (.ref a), .val (.int pp), .val (.int rr), .val (.ref b141)] [(.int u3), (.int 3), (.ref b141)])) := fun tq kq => G182 tq (st183 _ kq)
  obtain ⟨cl191, Ar191, q191, S191, M191, H191, Gf191⟩ := id V180'
  have hi192 : ¬ ((3 : Int32) < 0 ∨ cl191.slots.size ≤ ((3 : Int32)).toNatClampNeg) := (inb_of S191 ⟨by decide, by decide⟩)
  obtain ⟨T193, h193, X193, e193, W193, st193⟩ := stC X183 hx hZ e183 Ar191 (j := (3 : Int32)) hi192 (g := (mkF m 44 #[.val (.ref a), .val (.int pp), .val (.int rr), .val (.ref b141)] [(.int u3), (.int 3), (.ref b141)])) rfl rfl (hb hby d1_44)
  rw [show nar .char u3 = u3 from own_nC lu3.R] at W193
  have N193 := Fr.snoc X193 N183 g_b141
  have V193 := Arv.set Ar191 q191 S191 M191 H191 Gf191 (own_fC lu3.R) W193 3 rfl (Nat.le_of_ble_eq_true rfl)
  have V193' : Arv Z h193 b141 k141 .char (9 : Int32) [(.int u0), (.int u1), (.int u2), (.int u3), (.int 0), (.int 0), (.int 0), (.int 0), (.int 0)] (.int 0) := by exact V193
  have G194 : Go p e below A0 (T193.setTop (mkF m 45 #[.val (.ref a), .val (.int pp), .val (.int rr), .val (.ref b141)] [])) := fun tq kq => G190 tq (st193 _ kq)
  have G195 : Go p e below A0 (T193.setTop (mkF m 51 #[.val (.ref a), .val (.int pp), .val (.int rr), .val (.ref b141)] [(.int rr), (.int pp), (.int 4), (.ref a), (.int 4), (.ref b141)])) := fun tq kq => G194 tq (by
    refine XS.aloadN X193.here hx rfl (hb hby d1_45) rfl rfl ?_
    refine XS.iconst X193.here hx rfl (hb hby d1_46) ?_
    refine XS.aloadN X193.here hx rfl (hb hby d1_47) rfl rfl ?_
    refine XS.iconst X193.here hx rfl (hb hby d1_48) ?_
    refine XS.iloadN X193.here hx rfl (hb hby d1_49) rfl ?_
    refine XS.iloadN X193.here hx rfl (hb hby d1_50) rfl ?_
    exact kq)
  obtain ⟨u4, eu4⟩ : ∃ q, q = own_gv cf n_ (4 : Int32) pp rr := ⟨_, rfl⟩
  have lu4 := own_gvL eu4 hB hlr
  have f197 := (f184.wr W193)
  have f198 := (f185.other W193 (Or.inl (Nat.ne_of_lt lt_a_b141)))
  have f199 := (f186.other W193 (Or.inl (Nat.ne_of_lt lt_a_b141)))
  have f200 := (f187.other W193 (Nat.ne_of_lt lt_b_b141))
  have f201 := (Nat.le_trans f188 (Keep.of_wr W193).1)
  have f202 := (f189.wr W193 g_b141)
  obtain ⟨_, _, ⟨T196, L196, k196, n196⟩, -, X196, ⟨Lc196, hQ196, l196, y196, z196⟩, st196⟩ := Jvm.LawKit.callS X193 hx (y := (⟨"com/example/role_delegation/roledelegation/RevocationKindNamedPinLaw", "g", "(Ljava/lang/String;IIC)C"⟩ : MethodName)) hown (mvT hZ (wd hw 14 rfl)) (mvT hZ (wd hw 15 rfl)) (mvT hZ (wd hw 11 rfl)) (mvT hZ (wd hw 16 rfl)) (by decide) (backOf (W := 2) (rmG l Z a0 hw [] a b kb cf (4 : Int32) n_ pp rr u4 cs fo h193 n0 f201 f197 f198 f199 f200 hB hlr (by decide) eu4 hCS hcs hSF hfo f202) hZ (wd hw 16 rfl) (wd hw 11 rfl) (by decide) (by decide)) (g := (mkF m 51 #[.val (.ref a), .val (.int pp), .val (.int rr), .val (.ref b141)] [(.int rr), (.int pp), (.int 4), (.ref a), (.int 4), (.ref b141)])) rfl (by rw [hml]; rfl) (argsL := [(.ref a), (.int 4), (.int pp), (.int rr)]) (rest := [(.int 4), (.ref b141)]) (lenOf pd_11 rfl) rfl (by show 2 * 0 + _ ≤ _; exact Nat.le_of_eq rfl) (hb hby d1_51) (fun _ _ => ⟨rfl, e193, (by decide : 1 + 0 ≤ _), (by decide : 9 + 0 ≤ _)⟩)
  dsimp only [Pt.U, Pt.locs, Pt.cells, Pt.slots] at X196 l196 y196 z196 st196 hQ196
  obtain rfl : k196 = 1 := y196
  obtain rfl : n196 = 9 := z196
  obtain ⟨rfl, N196q, e196⟩ := hQ196
  have N196 : Fr n0 L196 := by rw [l196]; exact Fr.app N193 N196q
  have G203 : Go p e below A0 (T196.setTop (mkF m 54 #[.val (.ref a), .val (.int pp), .val (.int rr), .val (.ref b141)] [(.int u4), (.int 4), (.ref b141)])) := fun tq kq => G195 tq (st196 _ kq)
  obtain ⟨cl204, Ar204, q204, S204, M204, H204, Gf204⟩ := id V193'
  have hi205 : ¬ ((4 : Int32) < 0 ∨ cl204.slots.size ≤ ((4 : Int32)).toNatClampNeg) := (inb_of S204 ⟨by decide, by decide⟩)
  obtain ⟨T206, h206, X206, e206, W206, st206⟩ := stC X196 hx hZ e196 Ar204 (j := (4 : Int32)) hi205 (g := (mkF m 54 #[.val (.ref a), .val (.int pp), .val (.int rr), .val (.ref b141)] [(.int u4), (.int 4), (.ref b141)])) rfl rfl (hb hby d1_54)
  rw [show nar .char u4 = u4 from own_nC lu4.R] at W206
  have N206 := Fr.snoc X206 N196 g_b141
  have V206 := Arv.set Ar204 q204 S204 M204 H204 Gf204 (own_fC lu4.R) W206 4 rfl (Nat.le_of_ble_eq_true rfl)
  have V206' : Arv Z h206 b141 k141 .char (9 : Int32) [(.int u0), (.int u1), (.int u2), (.int u3), (.int u4), (.int 0), (.int 0), (.int 0), (.int 0)] (.int 0) := by simp only [List.set_cons_succ, List.set_cons_zero] at V206; exact V206
  have G207 : Go p e below A0 (T206.setTop (mkF m 55 #[.val (.ref a), .val (.int pp), .val (.int rr), .val (.ref b141)] [])) := fun tq kq => G203 tq (st206 _ kq)
  have G208 : Go p e below A0 (T206.setTop (mkF m 61 #[.val (.ref a), .val (.int pp), .val (.int rr), .val (.ref b141)] [(.int rr), (.int pp), (.int 5), (.ref a), (.int 5), (.ref b141)])) := fun tq kq => G207 tq (by
    refine XS.aloadN X206.here hx rfl (hb hby d1_55) rfl rfl ?_
    refine XS.iconst X206.here hx rfl (hb hby d1_56) ?_
    refine XS.aloadN X206.here hx rfl (hb hby d1_57) rfl rfl ?_
    refine XS.iconst X206.here hx rfl (hb hby d1_58) ?_
    refine XS.iloadN X206.here hx rfl (hb hby d1_59) rfl ?_
    refine XS.iloadN X206.here hx rfl (hb hby d1_60) rfl ?_
    exact kq)
  obtain ⟨u5, eu5⟩ : ∃ q, q = own_gv cf n_ (5 : Int32) pp rr := ⟨_, rfl⟩
  have lu5 := own_gvL eu5 hB hlr
  have f210 := (f197.wr W206)
  have f211 := (f198.other W206 (Or.inl (Nat.ne_of_lt lt_a_b141)))
  have f212 := (f199.other W206 (Or.inl (Nat.ne_of_lt lt_a_b141)))
  have f213 := (f200.other W206 (Nat.ne_of_lt lt_b_b141))
  have f214 := (Nat.le_trans f201 (Keep.of_wr W206).1)
  have f215 := (f202.wr W206 g_b141)
  obtain ⟨_, _, ⟨T209, L209, k209, n209⟩, -, X209, ⟨Lc209, hQ209, l209, y209, z209⟩, st209⟩ := Jvm.LawKit.callS X206 hx (y := (⟨"com/example/role_delegation/roledelegation/RevocationKindNamedPinLaw", "g", "(Ljava/lang/String;IIC)C"⟩ : MethodName)) hown (mvT hZ (wd hw 14 rfl)) (mvT hZ (wd hw 15 rfl)) (mvT hZ (wd hw 11 rfl)) (mvT hZ (wd hw 16 rfl)) (by decide) (backOf (W := 2) (rmG l Z a0 hw [] a b kb cf (5 : Int32) n_ pp rr u5 cs fo h206 n0 f214 f210 f211 f212 f213 hB hlr (by decide) eu5 hCS hcs hSF hfo f215) hZ (wd hw 16 rfl) (wd hw 11 rfl) (by decide) (by decide)) (g := (mkF m 61 #[.val (.ref a), .val (.int pp), .val (.int rr), .val (.ref b141)] [(.int rr), (.int pp), (.int 5), (.ref a), (.int 5), (.ref b141)])) rfl (by rw [hml]; rfl) (argsL := [(.ref a), (.int 5), (.int pp), (.int rr)]) (rest := [(.int 5), (.ref b141)]) (lenOf pd_11 rfl) rfl (by show 2 * 0 + _ ≤ _; exact Nat.le_of_eq rfl) (hb hby d1_61) (fun _ _ => ⟨rfl, e206, (by decide : 1 + 0 ≤ _), (by decide : 9 + 0 ≤ _)⟩)
  dsimp only [Pt.U, Pt.locs, Pt.cells, Pt.slots] at X209 l209 y209 z209 st209 hQ209
  obtain rfl : k209 = 1 := y209
  obtain rfl : n209 = 9 := z209
  obtain ⟨rfl, N209q, e209⟩ := hQ209
  have N209 : Fr n0 L209 := by rw [l209]; exact Fr.app N206 N209q
  have G216 : Go p e below A0 (T209.setTop (mkF m 64 #[.val (.ref a), .val (.int pp), .val (.int rr), .val (.ref b141)] [(.int u5), (.int 5), (.ref b141)])) := fun tq kq => G208 tq (st209 _ kq)
  obtain ⟨cl217, Ar217, q217, S217, M217, H217, Gf217⟩ := id V206'
  have hi218 : ¬ ((5 : Int32) < 0 ∨ cl217.slots.size ≤ ((5 : Int32)).toNatClampNeg) := (inb_of S217 ⟨by decide, by decide⟩)
  obtain ⟨T219, h219, X219, e219, W219, st219⟩ := stC X209 hx hZ e209 Ar217 (j := (5 : Int32)) hi218 (g := (mkF m 64 #[.val (.ref a), .val (.int pp), .val (.int rr), .val (.ref b141)] [(.int u5), (.int 5), (.ref b141)])) rfl rfl (hb hby d1_64)
  rw [show nar .char u5 = u5 from own_nC lu5.R] at W219
  have N219 := Fr.snoc X219 N209 g_b141
  have V219 := Arv.set Ar217 q217 S217 M217 H217 Gf217 (own_fC lu5.R) W219 5 rfl (Nat.le_of_ble_eq_true rfl)
  have V219' : Arv Z h219 b141 k141 .char (9 : Int32) [(.int u0), (.int u1), (.int u2), (.int u3), (.int u4), (.int u5), (.int 0), (.int 0), (.int 0)] (.int 0) := by simp only [List.set_cons_succ, List.set_cons_zero] at V219; exact V219
  have G220 : Go p e below A0 (T219.setTop (mkF m 65 #[.val (.ref a), .val (.int pp), .val (.int rr), .val (.ref b141)] [])) := fun tq kq => G216 tq (st219 _ kq)
  have G221 : Go p e below A0 (T219.setTop (mkF m 73 #[.val (.ref a), .val (.int pp), .val (.int rr), .val (.ref b141)] [(.int rr), (.int pp), (.int 6), (.ref a), (.int 6), (.ref b141)])) := fun tq kq => G220 tq (by
    refine XS.aloadN X219.here hx rfl (hb hby d1_65) rfl rfl ?_
    refine XS.bipush X219.here hx rfl (hb hby d1_66) ?_
    refine XS.aloadN X219.here hx rfl (hb hby d1_68) rfl rfl ?_
    refine XS.bipush X219.here hx rfl (hb hby d1_69) ?_
    refine XS.iloadN X219.here hx rfl (hb hby d1_71) rfl ?_
    refine XS.iloadN X219.here hx rfl (hb hby d1_72) rfl ?_
    exact kq)
  obtain ⟨u6, eu6⟩ : ∃ q, q = own_gv cf n_ (6 : Int32) pp rr := ⟨_, rfl⟩
  have lu6 := own_gvL eu6 hB hlr
  have f223 := (f210.wr W219)
  have f224 := (f211.other W219 (Or.inl (Nat.ne_of_lt lt_a_b141)))
  have f225 := (f212.other W219 (Or.inl (Nat.ne_of_lt lt_a_b141)))
  have f226 := (f213.other W219 (Nat.ne_of_lt lt_b_b141))
  have f227 := (Nat.le_trans f214 (Keep.of_wr W219).1)
  have f228 := (f215.wr W219 g_b141)
  obtain ⟨_, _, ⟨T222, L222, k222, n222⟩, -, X222, ⟨Lc222, hQ222, l222, y222, z222⟩, st222⟩ := Jvm.LawKit.callS X219 hx (y := (⟨"com/example/role_delegation/roledelegation/RevocationKindNamedPinLaw", "g", "(Ljava/lang/String;IIC)C"⟩ : MethodName)) hown (mvT hZ (wd hw 14 rfl)) (mvT hZ (wd hw 15 rfl)) (mvT hZ (wd hw 11 rfl)) (mvT hZ (wd hw 16 rfl)) (by decide) (backOf (W := 2) (rmG l Z a0 hw [] a b kb cf (6 : Int32) n_ pp rr u6 cs fo h219 n0 f227 f223 f224 f225 f226 hB hlr (by decide) eu6 hCS hcs hSF hfo f228) hZ (wd hw 16 rfl) (wd hw 11 rfl) (by decide) (by decide)) (g := (mkF m 73 #[.val (.ref a), .val (.int pp), .val (.int rr), .val (.ref b141)] [(.int rr), (.int pp), (.int 6), (.ref a), (.int 6), (.ref b141)])) rfl (by rw [hml]; rfl) (argsL := [(.ref a), (.int 6), (.int pp), (.int rr)]) (rest := [(.int 6), (.ref b141)]) (lenOf pd_11 rfl) rfl (by show 2 * 0 + _ ≤ _; exact Nat.le_of_eq rfl) (hb hby d1_73) (fun _ _ => ⟨rfl, e219, (by decide : 1 + 0 ≤ _), (by decide : 9 + 0 ≤ _)⟩)
  dsimp only [Pt.U, Pt.locs, Pt.cells, Pt.slots] at X222 l222 y222 z222 st222 hQ222
  obtain rfl : k222 = 1 := y222
  obtain rfl : n222 = 9 := z222
  obtain ⟨rfl, N222q, e222⟩ := hQ222
  have N222 : Fr n0 L222 := by rw [l222]; exact Fr.app N219 N222q
  have G229 : Go p e below A0 (T222.setTop (mkF m 76 #[.val (.ref a), .val (.int pp), .val (.int rr), .val (.ref b141)] [(.int u6), (.int 6), (.ref b141)])) := fun tq kq => G221 tq (st222 _ kq)
  obtain ⟨cl230, Ar230, q230, S230, M230, H230, Gf230⟩ := id V219'
  have hi231 : ¬ ((6 : Int32) < 0 ∨ cl230.slots.size ≤ ((6 : Int32)).toNatClampNeg) := (inb_of S230 ⟨by decide, by decide⟩)
  obtain ⟨T232, h232, X232, e232, W232, st232⟩ := stC X222 hx hZ e222 Ar230 (j := (6 : Int32)) hi231 (g := (mkF m 76 #[.val (.ref a), .val (.int pp), .val (.int rr), .val (.ref b141)] [(.int u6), (.int 6), (.ref b141)])) rfl rfl (hb hby d1_76)
  rw [show nar .char u6 = u6 from own_nC lu6.R] at W232
  have N232 := Fr.snoc X232 N222 g_b141
  have V232 := Arv.set Ar230 q230 S230 M230 H230 Gf230 (own_fC lu6.R) W232 6 rfl (Nat.le_of_ble_eq_true rfl)
  have V232' : Arv Z h232 b141 k141 .char (9 : Int32) [(.int u0), (.int u1), (.int u2), (.int u3), (.int u4), (.int u5), (.int u6), (.int 0), (.int 0)] (.int 0) := by simp only [List.set_cons_succ, List.set_cons_zero] at V232; exact V232
  have G233 : Go p e below A0 (T232.setTop (mkF m 77 #[.val (.ref a), .val (.int pp), .val (.int rr), .val (.ref b141)] [])) := fun tq kq => G229 tq (st232 _ kq)
  have G234 : Go p e below A0 (T232.setTop (mkF m 85 #[.val (.ref a), .val (.int pp), .val (.int rr), .val (.ref b141)] [(.int rr), (.int pp), (.int 7), (.ref a), (.int 7), (.ref b141)])) := fun tq kq => G233 tq (by
    refine XS.aloadN X232.here hx rfl (hb hby d1_77) rfl rfl ?_
    refine XS.bipush X232.here hx rfl (hb hby d1_78) ?_
    refine XS.aloadN X232.here hx rfl (hb hby d1_80) rfl rfl ?_
    refine XS.bipush X232.here hx rfl (hb hby d1_81) ?_
    refine XS.iloadN X232.here hx rfl (hb hby d1_83) rfl ?_
    refine XS.iloadN X232.here hx rfl (hb hby d1_84) rfl ?_
    exact kq)
  obtain ⟨u7, eu7⟩ : ∃ q, q = own_gv cf n_ (7 : Int32) pp rr := ⟨_, rfl⟩
  have lu7 := own_gvL eu7 hB hlr
  have f236 := (f223.wr W232)
  have f237 := (f224.other W232 (Or.inl (Nat.ne_of_lt lt_a_b141)))
  have f238 := (f225.other W232 (Or.inl (Nat.ne_of_lt lt_a_b141)))
  have f239 := (f226.other W232 (Nat.ne_of_lt lt_b_b141))
  have f240 := (Nat.le_trans f227 (Keep.of_wr W232).1)
  have f241 := (f228.wr W232 g_b141)
  obtain ⟨_, _, ⟨T235, L235, k235, n235⟩, -, X235, ⟨Lc235, hQ235, l235, y235, z235⟩, st235⟩ := Jvm.LawKit.callS X232 hx (y := (⟨"com/example/role_delegation/roledelegation/RevocationKindNamedPinLaw", "g", "(Ljava/lang/String;IIC)C"⟩ : MethodName)) hown (mvT hZ (wd hw 14 rfl)) (mvT hZ (wd hw 15 rfl)) (mvT hZ (wd hw 11 rfl)) (mvT hZ (wd hw 16 rfl)) (by decide) (backOf (W := 2) (rmG l Z a0 hw [] a b kb cf (7 : Int32) n_ pp rr u7 cs fo h232 n0 f240 f236 f237 f238 f239 hB hlr (by decide) eu7 hCS hcs hSF hfo f241) hZ (wd hw 16 rfl) (wd hw 11 rfl) (by decide) (by decide)) (g := (mkF m 85 #[.val (.ref a), .val (.int pp), .val (.int rr), .val (.ref b141)] [(.int rr), (.int pp), (.int 7), (.ref a), (.int 7), (.ref b141)])) rfl (by rw [hml]; rfl) (argsL := [(.ref a), (.int 7), (.int pp), (.int rr)]) (rest := [(.int 7), (.ref b141)]) (lenOf pd_11 rfl) rfl (by show 2 * 0 + _ ≤ _; exact Nat.le_of_eq rfl) (hb hby d1_85) (fun _ _ => ⟨rfl, e232, (by decide : 1 + 0 ≤ _), (by decide : 9 + 0 ≤ _)⟩)
  dsimp only [Pt.U, Pt.locs, Pt.cells, Pt.slots] at X235 l235 y235 z235 st235 hQ235
  obtain rfl : k235 = 1 := y235
  obtain rfl : n235 = 9 := z235
  obtain ⟨rfl, N235q, e235⟩ := hQ235
  have N235 : Fr n0 L235 := by rw [l235]; exact Fr.app N232 N235q
  have G242 : Go p e below A0 (T235.setTop (mkF m 88 #[.val (.ref a), .val (.int pp), .val (.int rr), .val (.ref b141)] [(.int u7), (.int 7), (.ref b141)])) := fun tq kq => G234 tq (st235 _ kq)
  obtain ⟨cl243, Ar243, q243, S243, M243, H243, Gf243⟩ := id V232'
  have hi244 : ¬ ((7 : Int32) < 0 ∨ cl243.slots.size ≤ ((7 : Int32)).toNatClampNeg) := (inb_of S243 ⟨by decide, by decide⟩)
  obtain ⟨T245, h245, X245, e245, W245, st245⟩ := stC X235 hx hZ e235 Ar243 (j := (7 : Int32)) hi244 (g := (mkF m 88 #[.val (.ref a), .val (.int pp), .val (.int rr), .val (.ref b141)] [(.int u7), (.int 7), (.ref b141)])) rfl rfl (hb hby d1_88)
  rw [show nar .char u7 = u7 from own_nC lu7.R] at W245
  have N245 := Fr.snoc X245 N235 g_b141
  have V245 := Arv.set Ar243 q243 S243 M243 H243 Gf243 (own_fC lu7.R) W245 7 rfl (Nat.le_of_ble_eq_true rfl)
  have V245' : Arv Z h245 b141 k141 .char (9 : Int32) [(.int u0), (.int u1), (.int u2), (.int u3), (.int u4), (.int u5), (.int u6), (.int u7), (.int 0)] (.int 0) := by simp only [List.set_cons_succ, List.set_cons_zero] at V245; exact V245
  have G246 : Go p e below A0 (T245.setTop (mkF m 89 #[.val (.ref a), .val (.int pp), .val (.int rr), .val (.ref b141)] [])) := fun tq kq => G242 tq (st245 _ kq)
  have G247 : Go p e below A0 (T245.setTop (mkF m 97 #[.val (.ref a), .val (.int pp), .val (.int rr), .val (.ref b141)] [(.int rr), (.int pp), (.int 8), (.ref a), (.int 8), (.ref b141)])) := fun tq kq => G246 tq (by
    refine XS.aloadN X245.here hx rfl (hb hby d1_89) rfl rfl ?_
    refine XS.bipush X245.here hx rfl (hb hby d1_90) ?_
    refine XS.aloadN X245.here hx rfl (hb hby d1_92) rfl rfl ?_
    refine XS.bipush X245.here hx rfl (hb hby d1_93) ?_
    refine XS.iloadN X245.here hx rfl (hb hby d1_95) rfl ?_
    refine XS.iloadN X245.here hx rfl (hb hby d1_96) rfl ?_
    exact kq)
  obtain ⟨u8, eu8⟩ : ∃ q, q = own_gv cf n_ (8 : Int32) pp rr := ⟨_, rfl⟩
  have lu8 := own_gvL eu8 hB hlr
  have f249 := (f236.wr W245)
  have f250 := (f237.other W245 (Or.inl (Nat.ne_of_lt lt_a_b141)))
  have f251 := (f238.other W245 (Or.inl (Nat.ne_of_lt lt_a_b141)))
  have f252 := (f239.other W245 (Nat.ne_of_lt lt_b_b141))
  have f253 := (Nat.le_trans f240 (Keep.of_wr W245).1)
  have f254 := (f241.wr W245 g_b141)
  obtain ⟨_, _, ⟨T248, L248, k248, n248⟩, -, X248, ⟨Lc248, hQ248, l248, y248, z248⟩, st248⟩ := Jvm.LawKit.callS X245 hx (y := (⟨"com/example/role_delegation/roledelegation/RevocationKindNamedPinLaw", "g", "(Ljava/lang/String;IIC)C"⟩ : MethodName)) hown (mvT hZ (wd hw 14 rfl)) (mvT hZ (wd hw 15 rfl)) (mvT hZ (wd hw 11 rfl)) (mvT hZ (wd hw 16 rfl)) (by decide) (backOf (W := 2) (rmG l Z a0 hw [] a b kb cf (8 : Int32) n_ pp rr u8 cs fo h245 n0 f253 f249 f250 f251 f252 hB hlr (by decide) eu8 hCS hcs hSF hfo f254) hZ (wd hw 16 rfl) (wd hw 11 rfl) (by decide) (by decide)) (g := (mkF m 97 #[.val (.ref a), .val (.int pp), .val (.int rr), .val (.ref b141)] [(.int rr), (.int pp), (.int 8), (.ref a), (.int 8), (.ref b141)])) rfl (by rw [hml]; rfl) (argsL := [(.ref a), (.int 8), (.int pp), (.int rr)]) (rest := [(.int 8), (.ref b141)]) (lenOf pd_11 rfl) rfl (by show 2 * 0 + _ ≤ _; exact Nat.le_of_eq rfl) (hb hby d1_97) (fun _ _ => ⟨rfl, e245, (by decide : 1 + 0 ≤ _), (by decide : 9 + 0 ≤ _)⟩)
  dsimp only [Pt.U, Pt.locs, Pt.cells, Pt.slots] at X248 l248 y248 z248 st248 hQ248
  obtain rfl : k248 = 1 := y248
  obtain rfl : n248 = 9 := z248
  obtain ⟨rfl, N248q, e248⟩ := hQ248
  have N248 : Fr n0 L248 := by rw [l248]; exact Fr.app N245 N248q
  have G255 : Go p e below A0 (T248.setTop (mkF m 100 #[.val (.ref a), .val (.int pp), .val (.int rr), .val (.ref b141)] [(.int u8), (.int 8), (.ref b141)])) := fun tq kq => G247 tq (st248 _ kq)
  obtain ⟨cl256, Ar256, q256, S256, M256, H256, Gf256⟩ := id V245'
  have hi257 : ¬ ((8 : Int32) < 0 ∨ cl256.slots.size ≤ ((8 : Int32)).toNatClampNeg) := (inb_of S256 ⟨by decide, by decide⟩)
  obtain ⟨T258, h258, X258, e258, W258, st258⟩ := stC X248 hx hZ e248 Ar256 (j := (8 : Int32)) hi257 (g := (mkF m 100 #[.val (.ref a), .val (.int pp), .val (.int rr), .val (.ref b141)] [(.int u8), (.int 8), (.ref b141)])) rfl rfl (hb hby d1_100)
  rw [show nar .char u8 = u8 from own_nC lu8.R] at W258
  have N258 := Fr.snoc X258 N248 g_b141
  have V258 := Arv.set Ar256 q256 S256 M256 H256 Gf256 (own_fC lu8.R) W258 8 rfl (Nat.le_of_ble_eq_true rfl)
  have V258' : Arv Z h258 b141 k141 .char (9 : Int32) [(.int u0), (.int u1), (.int u2), (.int u3), (.int u4), (.int u5), (.int u6), (.int u7), (.int u8)] (.int 0) := by simp only [List.set_cons_succ, List.set_cons_zero] at V258; exact V258
  have G259 : Go p e below A0 (T258.setTop (mkF m 101 #[.val (.ref a), .val (.int pp), .val (.int rr), .val (.ref b141)] [])) := fun tq kq => G255 tq (st258 _ kq)
  have f261 := (Nat.le_trans f253 (Keep.of_wr W258).1)
  obtain ⟨T260, h260, X260, e260, E260, A260, D260, -, st260⟩ := newO X258 hx hZ hown (wd hw 52 rfl) (wd hw 3 rfl) (wd hw 2 rfl) e258 (g := (mkF m 101 #[.val (.ref a), .val (.int pp), .val (.int rr), .val (.ref b141)] [])) rfl (hb hby d1_101) (by decide) (by decide)
  obtain ⟨b260, g260⟩ : ∃ z, z = h258.size := ⟨_, rfl⟩
  rw [← g260] at A260 D260 st260
  have f262 := (Nat.le_trans (Nat.le_trans (Nat.le_trans (Nat.le_trans (Nat.le_trans (Nat.le_trans (Nat.le_trans (Nat.le_trans (Nat.le_trans (Nat.le_trans (Nat.le_refl h0.size) E141.1) (Keep.of_wr W154).1) (Keep.of_wr W167).1) (Keep.of_wr W180).1) (Keep.of_wr W193).1) (Keep.of_wr W206).1) (Keep.of_wr W219).1) (Keep.of_wr W232).1) (Keep.of_wr W245).1) (Keep.of_wr W258).1)
  have sz_b260 : h0.size ≤ b260 := Nat.le_trans f262 (Nat.le_of_eq g260.symm)
  have g_b260 : n0 ≤ b260 := Nat.le_trans f261 (Nat.le_of_eq g260.symm)
  have lt_a_b260 : a < b260 := Nat.lt_of_lt_of_le (f249.wr W258).lt (Nat.le_of_eq g260.symm)
  have lt_b_b260 : b < b260 := Nat.lt_of_lt_of_le (f252.other W258 (Nat.ne_of_lt lt_b_b141)).lt (Nat.le_of_eq g260.symm)
  have lt_b141_b260 : b141 < b260 := Nat.lt_of_lt_of_le V258'.lt (Nat.le_of_eq g260.symm)
  have F260_value : Fld Z h260 b260 "java/lang/String" "value" "[B" .null := D260 (Or.inr (wd hw 5 rfl)) (ty := (.array .byte)) (by decide)
  have F260_coder : Fld Z h260 b260 "java/lang/String" "coder" "B" (.int 0) := D260 (Or.inr (wd hw 6 rfl)) (ty := .byte) (by decide)
  have G263 : Go p e below A0 (T260.setTop (mkF m 104 #[.val (.ref a), .val (.int pp), .val (.int rr), .val (.ref b141)] [(.ref b260)])) := fun tq kq => G259 tq (st260 _ kq)
  have G264 : Go p e below A0 (T260.setTop (mkF m 106 #[.val (.ref a), .val (.int pp), .val (.int rr), .val (.ref b141)] [(.ref b141), (.ref b260), (.ref b260)])) := fun tq kq => G263 tq (by
    refine XS.dup X260.here hx rfl (hb hby d1_104) rfl rfl ?_
    refine XS.aloadN X260.here hx rfl (hb hby d1_105) rfl rfl ?_
    exact kq)
  have f266 := (Nat.le_trans f261 E260.1)
  have f267 := (V258'.ext E260)
  have f268 := ((f254.wr W258 g_b141).ext E260)
  obtain ⟨_, _, ⟨T265, L265, k265, n265⟩, -, X265, ⟨Lc265, hQ265, l265, y265, z265⟩, st265⟩ := X260.specialBack hx (y := (⟨"java/lang/String", "<init>", "([C)V"⟩ : MethodName)) rfl hown (mvT hZ (wd hw 53 rfl)) (mvT hZ (wd hw 54 rfl)) (mvT hZ (wd hw 55 rfl)) (by decide) (backOf (W := 1) (rmH l Z a0 hw [] b260 b141 k141 (own_gw cf n_ pp rr) (9 : Int32) cs fo h260 n0 f266 A260 g_b260 F260_value F260_coder ((Af.of f267).fn (own_cT9 u0 u1 u2 u3 u4 u5 u6 u7 u8 (own_gw cf n_ pp rr) eu0 eu1 eu2 eu3 eu4 eu5 eu6 eu7 eu8)) (Nat.ne_of_lt lt_b141_b260) (fun j => own_gvL rfl hB hlr) (by decide) hCS hcs hSF hfo f268) hZ (wd hw 55 rfl) (wd hw 2 rfl) (by decide) (by decide)) (g := (mkF m 106 #[.val (.ref a), .val (.int pp), .val (.int rr), .val (.ref b141)] [(.ref b141), (.ref b260), (.ref b260)])) rfl (by rw [hml]; rfl) (Steps.refl _) (a := b260) (argsL := [(.ref b141)]) (rest := [(.ref b260)]) (lenOf pd_12 rfl) rfl (by show 2 * 0 + _ ≤ _; exact Nat.le_of_eq rfl) (hb hby d1_106) (fun _ _ => ⟨rfl, e260, (by decide : 2 + 1 ≤ _), (by decide : 13 + 12 ≤ _)⟩)
  dsimp only [Pt.U, Pt.locs, Pt.cells, Pt.slots] at X265 l265 y265 z265 st265 hQ265
  obtain rfl : k265 = 3 := y265
  obtain rfl : n265 = 25 := z265
  obtain ⟨rfl, N265q, K265, bb265, kk265, Fv265, Fc265, Ab265⟩ := hQ265
  have N265 : Fr n0 L265 := by rw [l265]; exact Fr.app N258 N265q
  have G269 : Go p e below A0 (T265.setTop (mkF m 109 #[.val (.ref a), .val (.int pp), .val (.int rr), .val (.ref b141)] [(.ref b260)])) := fun tq kq => G264 tq (st265.trans kq)
  have f270 := (A260.keep K265)
  obtain ⟨fs, hr, hrun, hended, hW, hsame⟩ := X265.leave (v := some (.ref b260)) (fun h => by rw [Bd.returns] at h; cases h)
  refine ⟨_, _, (by rw [← hA0]; exact G269 _ (retOut X265 hx (t := (.object "java/lang/String")) Bd.returns rfl (Or.inr (Or.inr (Or.inr (Or.inr ⟨rfl, rfl, rfl⟩)))) (hb hby d1_109) hr)), hrun, hended, _, _, rfl, ?_, ⟨_, rfl⟩, hW, hsame.mono (by decide) (by decide)⟩
  show Qw Z (9 : Int32) (own_gw cf n_ pp rr) h0 n0 _ T265.heap _
  exact ⟨b260, bb265, kk265, rfl, N265, (((((((((((((Keep.refl h0 []).ext E141).wr W154 (Or.inr sz_b141)).wr W167 (Or.inr sz_b141)).wr W180 (Or.inr sz_b141)).wr W193 (Or.inr sz_b141)).wr W206 (Or.inr sz_b141)).wr W219 (Or.inr sz_b141)).wr W232 (Or.inr sz_b141)).wr W245 (Or.inr sz_b141)).wr W258 (Or.inr sz_b141)).ext E260).trans K265 (allS (P := fun x => x ∈ [] ∨ h0.size ≤ x) (Or.inr sz_b260) all0)), g_b260, f270, Fv265, Fc265, Ab265⟩
set_option maxRecDepth 65536 in
set_option maxHeartbeats 40000000 in
theorem rmW11 (l : Launch) (Z : State) (a0 : Array Value) (hw : ∀ d ∈ tables_1, d.before a0 Z = true) (ws : List Jvm.Cond) (a b : Addr) (kb : ClassId) (cf : Nat → Int32) (n_ pp rr : Int32) (cs : Int32) (fo : Value) (h0 : Heap) (n0 : Nat) (Z0 : n0 ≤ h0.size) (E : Exa Z h0 a "java/lang/String") (Fv : Fld Z h0 a "java/lang/String" "value" "[B" (.ref b)) (Fc : Fld Z h0 a "java/lang/String" "coder" "B" (.int 0)) (Ab : Af Z h0 b kb .byte n_ (fun j => .int (own_by (cf j)))) (hB : ∀ j, own_L (cf j)) (hlr : own_L rr) (hCS : Sta Z Z.heap "java/lang/String" "COMPACT_STRINGS" "Z" (.int cs)) (hcs : ¬ cs = (0 : Int32)) (hSF : Sta Z Z.heap "jdk/internal/util/Preconditions" "SIOOBE_FORMATTER" "Ljava/util/function/BiFunction;" fo) (hfo : fo.isRef = true) (hold : Old Z n0 h0) :
    MetFree l (⟨"com/example/role_delegation/roledelegation/RevocationKindNamedPinLaw", "w11", "(Ljava/lang/String;IC)Ljava/lang/String;"⟩ : MethodName) (head1 (Jvm.Cond.code (⟨"com/example/role_delegation/roledelegation/RevocationKindNamedPinLaw", "w11", "(Ljava/lang/String;IC)Ljava/lang/String;"⟩ : MethodName) method_7_code 4 (some (.object "java/lang/String")) :: ws) (Rm 5 3 27 70)) (fun aa UU => aa = #[(.ref a), (.int pp), (.int rr)] ∧ Z.Warmed39 UU.vm ∧ UU.heap = h0) (fun _ _ _ _ _ => True) (fun _ UU oo U' => ∃ v L, oo = .returned v ∧ Qw Z (11 : Int32) (own_gw cf n_ pp rr) h0 n0 v U'.heap L ∧ FrameEnd UU oo U' L (Rm 5 3 27 70).cells (Rm 5 3 27 70).slots) := by
  refine MetFree.of_bodySF (plainFor_of_name pn_3) hisR ?_
  intro p e s m args below meth c s₁ Bd hml0 hP hK
  obtain ⟨rfl, hZ, hh⟩ := hP
  have hx := Bd.exec
  have hby := Bd.bytes
  have hml : c.maxLocals = 4 := hml0
  have hown : s.vm.findClass "com/example/role_delegation/roledelegation/RevocationKindNamedPinLaw" = some m.cls := findClass_of_methodNamed Bd.named
  have hnm := (name_of_methodNamed Bd.named Bd.method).1
  have X0 : Stand p l e (Rm 5 3 27 70) s m #[(.ref a), (.int pp), (.int rr)] below meth c s₁ [] 0 0 := Stand.of_body Bd
  have e0 : s₁.heap = h0 := by rw [← hh, Bd.state]; rfl
  have N0 := Fr.nil n0
  obtain ⟨A0, hA0⟩ : ∃ A, A = s₁.setTop (entryFrame m #[(.ref a), (.int pp), (.int rr)] 4) := ⟨_, rfl⟩
  have G0 : Go p e below A0 (s₁.setTop (mkF m 0 #[.val (.ref a), .val (.int pp), .val (.int rr), .unset] [])) := fun tq kq => by rw [hA0]; exact castTop (ef_rmW11 m a pp rr) kq
  have G271 : Go p e below A0 (s₁.setTop (mkF m 2 #[.val (.ref a), .val (.int pp), .val (.int rr), .unset] [(.int 11)])) := fun tq kq => G0 tq (by
    refine XS.bipush X0.here hx rfl (hb hby d20_0) ?_
    exact kq)
  obtain ⟨T272, h272, k272, X272, e272, E272, A272, st272⟩ := newP X0 hx hZ (wd hw 13 rfl) e0 (g := (mkF m 2 #[.val (.ref a), .val (.int pp), .val (.int rr), .unset] [(.int 11)])) rfl (hb hby d20_2) rfl (by decide) (cap := 11) (by decide) (by decide) (by decide) (by decide)
  obtain ⟨b272, g272⟩ : ∃ z, z = h0.size := ⟨_, rfl⟩
  rw [← g272] at A272 st272
  have sz_b272 : h0.size ≤ b272 := Nat.le_trans (Nat.le_refl h0.size) (Nat.le_of_eq g272.symm)
  have g_b272 : n0 ≤ b272 := Nat.le_trans Z0 (Nat.le_of_eq g272.symm)
  have lt_a_b272 : a < b272 := Nat.lt_of_lt_of_le E.lt (Nat.le_of_eq g272.symm)
  have lt_b_b272 : b < b272 := Nat.lt_of_lt_of_le Ab.lt (Nat.le_of_eq g272.symm)
  have V272 : Arv Z h272 b272 k272 .char (11 : Int32) [(.int 0), (.int 0), (.int 0), (.int 0), (.int 0), (.int 0), (.int 0), (.int 0), (.int 0), (.int 0), (.int 0)] (.int 0) := (Arv.new A272 (by decide)).pad (pad_rep [] (.int 0) 11)
  have G273 : Go p e below A0 (T272.setTop (mkF m 4 #[.val (.ref a), .val (.int pp), .val (.int rr), .unset] [(.ref b272)])) := fun tq kq => G271 tq (st272 _ kq)
  have G274 : Go p e below A0 (T272.setTop (mkF m 11 #[.val (.ref a), .val (.int pp), .val (.int rr), .val (.ref b272)] [(.int rr), (.int pp), (.int 0), (.ref a), (.int 0), (.ref b272)])) := fun tq kq => G273 tq (by
    refine XS.astoreN X272.here hx rfl (hb hby d20_4) rfl rfl (l' := #[.val (.ref a), .val (.int pp), .val (.int rr), .val (.ref b272)]) rfl ?_
    refine XS.aloadN X272.here hx rfl (hb hby d20_5) rfl rfl ?_
    refine XS.iconst X272.here hx rfl (hb hby d20_6) ?_
    refine XS.aloadN X272.here hx rfl (hb hby d20_7) rfl rfl ?_
    refine XS.iconst X272.here hx rfl (hb hby d20_8) ?_
    refine XS.iloadN X272.here hx rfl (hb hby d20_9) rfl ?_
    refine XS.iloadN X272.here hx rfl (hb hby d20_10) rfl ?_
    exact kq)
  obtain ⟨u0, eu0⟩ : ∃ q, q = own_gv cf n_ (0 : Int32) pp rr := ⟨_, rfl⟩
  have lu0 := own_gvL eu0 hB hlr
  have f276 := (E.ext E272)
  have f277 := (Fv.ext E272)
  have f278 := (Fc.ext E272)
  have f279 := (Ab.ext E272)
  have f280 := (Nat.le_trans Z0 E272.1)
  have f281 := (hold.ext E272)
  obtain ⟨_, _, ⟨T275, L275, k275, n275⟩, -, X275, ⟨Lc275, hQ275, l275, y275, z275⟩, st275⟩ := Jvm.LawKit.callS X272 hx (y := (⟨"com/example/role_delegation/roledelegation/RevocationKindNamedPinLaw", "g", "(Ljava/lang/String;IIC)C"⟩ : MethodName)) hown (mvT hZ (wd hw 14 rfl)) (mvT hZ (wd hw 15 rfl)) (mvT hZ (wd hw 11 rfl)) (mvT hZ (wd hw 16 rfl)) (by decide) (backOf (W := 2) (rmG l Z a0 hw [] a b kb cf (0 : Int32) n_ pp rr u0 cs fo h272 n0 f280 f276 f277 f278 f279 hB hlr (by decide) eu0 hCS hcs hSF hfo f281) hZ (wd hw 16 rfl) (wd hw 11 rfl) (by decide) (by decide)) (g := (mkF m 11 #[.val (.ref a), .val (.int pp), .val (.int rr), .val (.ref b272)] [(.int rr), (.int pp), (.int 0), (.ref a), (.int 0), (.ref b272)])) rfl (by rw [hml]; rfl) (argsL := [(.ref a), (.int 0), (.int pp), (.int rr)]) (rest := [(.int 0), (.ref b272)]) (lenOf pd_11 rfl) rfl (by show 2 * 0 + _ ≤ _; exact Nat.le_of_eq rfl) (hb hby d20_11) (fun _ _ => ⟨rfl, e272, (by decide : 1 + 0 ≤ _), (by decide : 11 + 0 ≤ _)⟩)
  dsimp only [Pt.U, Pt.locs, Pt.cells, Pt.slots] at X275 l275 y275 z275 st275 hQ275
  obtain rfl : k275 = 1 := y275
  obtain rfl : n275 = 11 := z275
  obtain ⟨rfl, N275q, e275⟩ := hQ275
  have N275 : Fr n0 L275 := by rw [l275]; exact Fr.app N0 N275q
  have G282 : Go p e below A0 (T275.setTop (mkF m 14 #[.val (.ref a), .val (.int pp), .val (.int rr), .val (.ref b272)] [(.int u0), (.int 0), (.ref b272)])) := fun tq kq => G274 tq (st275 _ kq)
  obtain ⟨cl283, Ar283, q283, S283, M283, H283, Gf283⟩ := id V272
  have hi284 : ¬ ((0 : Int32) < 0 ∨ cl283.slots.size ≤ ((0 : Int32)).toNatClampNeg) := (inb_of S283 ⟨by decide, by decide⟩)
  obtain ⟨T285, h285, X285, e285, W285, st285⟩ := stC X275 hx hZ e275 Ar283 (j := (0 : Int32)) hi284 (g := (mkF m 14 #[.val (.ref a), .val (.int pp), .val (.int rr), .val (.ref b272)] [(.int u0), (.int 0), (.ref b272)])) rfl rfl (hb hby d20_14)
  rw [show nar .char u0 = u0 from own_nC lu0.R] at W285
  have N285 := Fr.snoc X285 N275 g_b272
  have V285 := Arv.set Ar283 q283 S283 M283 H283 Gf283 (own_fC lu0.R) W285 0 rfl (Nat.le_of_ble_eq_true rfl)
  have V285' : Arv Z h285 b272 k272 .char (11 : Int32) [(.int u0), (.int 0), (.int 0), (.int 0), (.int 0), (.int 0), (.int 0), (.int 0), (.int 0), (.int 0), (.int 0)] (.int 0) := by exact V285
  have G286 : Go p e below A0 (T285.setTop (mkF m 15 #[.val (.ref a), .val (.int pp), .val (.int rr), .val (.ref b272)] [])) := fun tq kq => G282 tq (st285 _ kq)
  have G287 : Go p e below A0 (T285.setTop (mkF m 21 #[.val (.ref a), .val (.int pp), .val (.int rr), .val (.ref b272)] [(.int rr), (.int pp), (.int 1), (.ref a), (.int 1), (.ref b272)])) := fun tq kq => G286 tq (by
    refine XS.aloadN X285.here hx rfl (hb hby d20_15) rfl rfl ?_
    refine XS.iconst X285.here hx rfl (hb hby d20_16) ?_
    refine XS.aloadN X285.here hx rfl (hb hby d20_17) rfl rfl ?_
    refine XS.iconst X285.here hx rfl (hb hby d20_18) ?_
    refine XS.iloadN X285.here hx rfl (hb hby d20_19) rfl ?_
    refine XS.iloadN X285.here hx rfl (hb hby d20_20) rfl ?_
    exact kq)
  obtain ⟨u1, eu1⟩ : ∃ q, q = own_gv cf n_ (1 : Int32) pp rr := ⟨_, rfl⟩
  have lu1 := own_gvL eu1 hB hlr
  have f289 := (f276.wr W285)
  have f290 := (f277.other W285 (Or.inl (Nat.ne_of_lt lt_a_b272)))
  have f291 := (f278.other W285 (Or.inl (Nat.ne_of_lt lt_a_b272)))
  have f292 := (f279.other W285 (Nat.ne_of_lt lt_b_b272))
  have f293 := (Nat.le_trans f280 (Keep.of_wr W285).1)
  have f294 := (f281.wr W285 g_b272)
  obtain ⟨_, _, ⟨T288, L288, k288, n288⟩, -, X288, ⟨Lc288, hQ288, l288, y288, z288⟩, st288⟩ := Jvm.LawKit.callS X285 hx (y := (⟨"com/example/role_delegation/roledelegation/RevocationKindNamedPinLaw", "g", "(Ljava/lang/String;IIC)C"⟩ : MethodName)) hown (mvT hZ (wd hw 14 rfl)) (mvT hZ (wd hw 15 rfl)) (mvT hZ (wd hw 11 rfl)) (mvT hZ (wd hw 16 rfl)) (by decide) (backOf (W := 2) (rmG l Z a0 hw [] a b kb cf (1 : Int32) n_ pp rr u1 cs fo h285 n0 f293 f289 f290 f291 f292 hB hlr (by decide) eu1 hCS hcs hSF hfo f294) hZ (wd hw 16 rfl) (wd hw 11 rfl) (by decide) (by decide)) (g := (mkF m 21 #[.val (.ref a), .val (.int pp), .val (.int rr), .val (.ref b272)] [(.int rr), (.int pp), (.int 1), (.ref a), (.int 1), (.ref b272)])) rfl (by rw [hml]; rfl) (argsL := [(.ref a), (.int 1), (.int pp), (.int rr)]) (rest := [(.int 1), (.ref b272)]) (lenOf pd_11 rfl) rfl (by show 2 * 0 + _ ≤ _; exact Nat.le_of_eq rfl) (hb hby d20_21) (fun _ _ => ⟨rfl, e285, (by decide : 1 + 0 ≤ _), (by decide : 11 + 0 ≤ _)⟩)
  dsimp only [Pt.U, Pt.locs, Pt.cells, Pt.slots] at X288 l288 y288 z288 st288 hQ288
  obtain rfl : k288 = 1 := y288
  obtain rfl : n288 = 11 := z288
  obtain ⟨rfl, N288q, e288⟩ := hQ288
  have N288 : Fr n0 L288 := by rw [l288]; exact Fr.app N285 N288q
  have G295 : Go p e below A0 (T288.setTop (mkF m 24 #[.val (.ref a), .val (.int pp), .val (.int rr), .val (.ref b272)] [(.int u1), (.int 1), (.ref b272)])) := fun tq kq => G287 tq (st288 _ kq)
  obtain ⟨cl296, Ar296, q296, S296, M296, H296, Gf296⟩ := id V285'
  have hi297 : ¬ ((1 : Int32) < 0 ∨ cl296.slots.size ≤ ((1 : Int32)).toNatClampNeg) := (inb_of S296 ⟨by decide, by decide⟩)
  obtain ⟨T298, h298, X298, e298, W298, st298⟩ := stC X288 hx hZ e288 Ar296 (j := (1 : Int32)) hi297 (g := (mkF m 24 #[.val (.ref a), .val (.int pp), .val (.int rr), .val (.ref b272)] [(.int u1), (.int 1), (.ref b272)])) rfl rfl (hb hby d20_24)
  rw [show nar .char u1 = u1 from own_nC lu1.R] at W298
  have N298 := Fr.snoc X298 N288 g_b272
  have V298 := Arv.set Ar296 q296 S296 M296 H296 Gf296 (own_fC lu1.R) W298 1 rfl (Nat.le_of_ble_eq_true rfl)
  have V298' : Arv Z h298 b272 k272 .char (11 : Int32) [(.int u0), (.int u1), (.int 0), (.int 0), (.int 0), (.int 0), (.int 0), (.int 0), (.int 0), (.int 0), (.int 0)] (.int 0) := by exact V298
  have G299 : Go p e below A0 (T298.setTop (mkF m 25 #[.val (.ref a), .val (.int pp), .val (.int rr), .val (.ref b272)] [])) := fun tq kq => G295 tq (st298 _ kq)
  have G300 : Go p e below A0 (T298.setTop (mkF m 31 #[.val (.ref a), .val (.int pp), .val (.int rr), .val (.ref b272)] [(.int rr), (.int pp), (.int 2), (.ref a), (.int 2), (.ref b272)])) := fun tq kq => G299 tq (by
    refine XS.aloadN X298.here hx rfl (hb hby d20_25) rfl rfl ?_
    refine XS.iconst X298.here hx rfl (hb hby d20_26) ?_
    refine XS.aloadN X298.here hx rfl (hb hby d20_27) rfl rfl ?_
    refine XS.iconst X298.here hx rfl (hb hby d20_28) ?_
    refine XS.iloadN X298.here hx rfl (hb hby d20_29) rfl ?_
    refine XS.iloadN X298.here hx rfl (hb hby d20_30) rfl ?_
    exact kq)
  obtain ⟨u2, eu2⟩ : ∃ q, q = own_gv cf n_ (2 : Int32) pp rr := ⟨_, rfl⟩
  have lu2 := own_gvL eu2 hB hlr
  have f302 := (f289.wr W298)
  have f303 := (f290.other W298 (Or.inl (Nat.ne_of_lt lt_a_b272)))
  have f304 := (f291.other W298 (Or.inl (Nat.ne_of_lt lt_a_b272)))
  have f305 := (f292.other W298 (Nat.ne_of_lt lt_b_b272))
  have f306 := (Nat.le_trans f293 (Keep.of_wr W298).1)
  have f307 := (f294.wr W298 g_b272)
  obtain ⟨_, _, ⟨T301, L301, k301, n301⟩, -, X301, ⟨Lc301, hQ301, l301, y301, z301⟩, st301⟩ := Jvm.LawKit.callS X298 hx (y := (⟨"com/example/role_delegation/roledelegation/RevocationKindNamedPinLaw", "g", "(Ljava/lang/String;IIC)C"⟩ : MethodName)) hown (mvT hZ (wd hw 14 rfl)) (mvT hZ (wd hw 15 rfl)) (mvT hZ (wd hw 11 rfl)) (mvT hZ (wd hw 16 rfl)) (by decide) (backOf (W := 2) (rmG l Z a0 hw [] a b kb cf (2 : Int32) n_ pp rr u2 cs fo h298 n0 f306 f302 f303 f304 f305 hB hlr (by decide) eu2 hCS hcs hSF hfo f307) hZ (wd hw 16 rfl) (wd hw 11 rfl) (by decide) (by decide)) (g := (mkF m 31 #[.val (.ref a), .val (.int pp), .val (.int rr), .val (.ref b272)] [(.int rr), (.int pp), (.int 2), (.ref a), (.int 2), (.ref b272)])) rfl (by rw [hml]; rfl) (argsL := [(.ref a), (.int 2), (.int pp), (.int rr)]) (rest := [(.int 2), (.ref b272)]) (lenOf pd_11 rfl) rfl (by show 2 * 0 + _ ≤ _; exact Nat.le_of_eq rfl) (hb hby d20_31) (fun _ _ => ⟨rfl, e298, (by decide : 1 + 0 ≤ _), (by decide : 11 + 0 ≤ _)⟩)
  dsimp only [Pt.U, Pt.locs, Pt.cells, Pt.slots] at X301 l301 y301 z301 st301 hQ301
  obtain rfl : k301 = 1 := y301
  obtain rfl : n301 = 11 := z301
  obtain ⟨rfl, N301q, e301⟩ := hQ301
  have N301 : Fr n0 L301 := by rw [l301]; exact Fr.app N298 N301q
  have G308 : Go p e below A0 (T301.setTop (mkF m 34 #[.val (.ref a), .val (.int pp), .val (.int rr), .val (.ref b272)] [(.int u2), (.int 2), (.ref b272)])) := fun tq kq => G300 tq (st301 _ kq)
  obtain ⟨cl309, Ar309, q309, S309, M309, H309, Gf309⟩ := id V298'
  have hi310 : ¬ ((2 : Int32) < 0 ∨ cl309.slots.size ≤ ((2 : Int32)).toNatClampNeg) := (inb_of S309 ⟨by decide, by decide⟩)
  obtain ⟨T311, h311, X311, e311, W311, st311⟩ := stC X301 hx hZ e301 Ar309 (j := (2 : Int32)) hi310 (g := (mkF m 34 #[.val (.ref a), .val (.int pp), .val (.int rr), .val (.ref b272)] [(.int u2), (.int 2), (.ref b272)])) rfl rfl (hb hby d20_34)
  rw [show nar .char u2 = u2 from own_nC lu2.R] at W311
  have N311 := Fr.snoc X311 N301 g_b272
  have V311 := Arv.set Ar309 q309 S309 M309 H309 Gf309 (own_fC lu2.R) W311 2 rfl (Nat.le_of_ble_eq_true rfl)
  have V311' : Arv Z h311 b272 k272 .char (11 : Int32) [(.int u0), (.int u1), (.int u2), (.int 0), (.int 0), (.int 0), (.int 0), (.int 0), (.int 0), (.int 0), (.int 0)] (.int 0) := by exact V311
  have G312 : Go p e below A0 (T311.setTop (mkF m 35 #[.val (.ref a), .val (.int pp), .val (.int rr), .val (.ref b272)] [])) := fun tq kq => G308 tq (st311 _ kq)
  have G313 : Go p e below A0 (T311.setTop (mkF m 41 #[.val (.ref a), .val (.int pp), .val (.int rr), .val (.ref b272)] [(.int rr), (.int pp), (.int 3), (.ref a), (.int 3), (.ref b272)])) := fun tq kq => G312 tq (by
    refine XS.aloadN X311.here hx rfl (hb hby d20_35) rfl rfl ?_
    refine XS.iconst X311.here hx rfl (hb hby d20_36) ?_
    refine XS.aloadN X311.here hx rfl (hb hby d20_37) rfl rfl ?_
    refine XS.iconst X311.here hx rfl (hb hby d20_38) ?_
    refine XS.iloadN X311.here hx rfl (hb hby d20_39) rfl ?_
    refine XS.iloadN X311.here hx rfl (hb hby d20_40) rfl ?_
    exact kq)
  obtain ⟨u3, eu3⟩ : ∃ q, q = own_gv cf n_ (3 : Int32) pp rr := ⟨_, rfl⟩
  have lu3 := own_gvL eu3 hB hlr
  have f315 := (f302.wr W311)
  have f316 := (f303.other W311 (Or.inl (Nat.ne_of_lt lt_a_b272)))
  have f317 := (f304.other W311 (Or.inl (Nat.ne_of_lt lt_a_b272)))
  have f318 := (f305.other W311 (Nat.ne_of_lt lt_b_b272))
  have f319 := (Nat.le_trans f306 (Keep.of_wr W311).1)
  have f320 := (f307.wr W311 g_b272)
  obtain ⟨_, _, ⟨T314, L314, k314, n314⟩, -, X314, ⟨Lc314, hQ314, l314, y314, z314⟩, st314⟩ := Jvm.LawKit.callS X311 hx (y := (⟨"com/example/role_delegation/roledelegation/RevocationKindNamedPinLaw", "g", "(Ljava/lang/String;IIC)C"⟩ : MethodName)) hown (mvT hZ (wd hw 14 rfl)) (mvT hZ (wd hw 15 rfl)) (mvT hZ (wd hw 11 rfl)) (mvT hZ (wd hw 16 rfl)) (by decide) (backOf (W := 2) (rmG l Z a0 hw [] a b kb cf (3 : Int32) n_ pp rr u3 cs fo h311 n0 f319 f315 f316 f317 f318 hB hlr (by decide) eu3 hCS hcs hSF hfo f320) hZ (wd hw 16 rfl) (wd hw 11 rfl) (by decide) (by decide)) (g := (mkF m 41 #[.val (.ref a), .val (.int pp), .val (.int rr), .val (.ref b272)] [(.int rr), (.int pp), (.int 3), (.ref a), (.int 3), (.ref b272)])) rfl (by rw [hml]; rfl) (argsL := [(.ref a), (.int 3), (.int pp), (.int rr)]) (rest := [(.int 3), (.ref b272)]) (lenOf pd_11 rfl) rfl (by show 2 * 0 + _ ≤ _; exact Nat.le_of_eq rfl) (hb hby d20_41) (fun _ _ => ⟨rfl, e311, (by decide : 1 + 0 ≤ _), (by decide : 11 + 0 ≤ _)⟩)
  dsimp only [Pt.U, Pt.locs, Pt.cells, Pt.slots] at X314 l314 y314 z314 st314 hQ314
  obtain rfl : k314 = 1 := y314
  obtain rfl : n314 = 11 := z314
  obtain ⟨rfl, N314q, e314⟩ := hQ314
  have N314 : Fr n0 L314 := by rw [l314]; exact Fr.app N311 N314q
  have G321 : Go p e below A0 (T314.setTop (mkF m 44 #[.val (.ref a), .val (.int pp), .val (.int rr), .val (.ref b272)] [(.int u3), (.int 3), (.ref b272)])) := fun tq kq => G313 tq (st314 _ kq)
  obtain ⟨cl322, Ar322, q322, S322, M322, H322, Gf322⟩ := id V311'
  have hi323 : ¬ ((3 : Int32) < 0 ∨ cl322.slots.size ≤ ((3 : Int32)).toNatClampNeg) := (inb_of S322 ⟨by decide, by decide⟩)
  obtain ⟨T324, h324, X324, e324, W324, st324⟩ := stC X314 hx hZ e314 Ar322 (j := (3 : Int32)) hi323 (g := (mkF m 44 #[.val (.ref a), .val (.int pp), .val (.int rr), .val (.ref b272)] [(.int u3), (.int 3), (.ref b272)])) rfl rfl (hb hby d20_44)
  rw [show nar .char u3 = u3 from own_nC lu3.R] at W324
  have N324 := Fr.snoc X324 N314 g_b272
  have V324 := Arv.set Ar322 q322 S322 M322 H322 Gf322 (own_fC lu3.R) W324 3 rfl (Nat.le_of_ble_eq_true rfl)
  have V324' : Arv Z h324 b272 k272 .char (11 : Int32) [(.int u0), (.int u1), (.int u2), (.int u3), (.int 0), (.int 0), (.int 0), (.int 0), (.int 0), (.int 0), (.int 0)] (.int 0) := by exact V324
  have G325 : Go p e below A0 (T324.setTop (mkF m 45 #[.val (.ref a), .val (.int pp), .val (.int rr), .val (.ref b272)] [])) := fun tq kq => G321 tq (st324 _ kq)
  have G326 : Go p e below A0 (T324.setTop (mkF m 51 #[.val (.ref a), .val (.int pp), .val (.int rr), .val (.ref b272)] [(.int rr), (.int pp), (.int 4), (.ref a), (.int 4), (.ref b272)])) := fun tq kq => G325 tq (by
    refine XS.aloadN X324.here hx rfl (hb hby d20_45) rfl rfl ?_
    refine XS.iconst X324.here hx rfl (hb hby d20_46) ?_
    refine XS.aloadN X324.here hx rfl (hb hby d20_47) rfl rfl ?_
    refine XS.iconst X324.here hx rfl (hb hby d20_48) ?_
    refine XS.iloadN X324.here hx rfl (hb hby d20_49) rfl ?_
    refine XS.iloadN X324.here hx rfl (hb hby d20_50) rfl ?_
    exact kq)
  obtain ⟨u4, eu4⟩ : ∃ q, q = own_gv cf n_ (4 : Int32) pp rr := ⟨_, rfl⟩
  have lu4 := own_gvL eu4 hB hlr
  have f328 := (f315.wr W324)
  have f329 := (f316.other W324 (Or.inl (Nat.ne_of_lt lt_a_b272)))
  have f330 := (f317.other W324 (Or.inl (Nat.ne_of_lt lt_a_b272)))
  have f331 := (f318.other W324 (Nat.ne_of_lt lt_b_b272))
  have f332 := (Nat.le_trans f319 (Keep.of_wr W324).1)
  have f333 := (f320.wr W324 g_b272)
  obtain ⟨_, _, ⟨T327, L327, k327, n327⟩, -, X327, ⟨Lc327, hQ327, l327, y327, z327⟩, st327⟩ := Jvm.LawKit.callS X324 hx (y := (⟨"com/example/role_delegation/roledelegation/RevocationKindNamedPinLaw", "g", "(Ljava/lang/String;IIC)C"⟩ : MethodName)) hown (mvT hZ (wd hw 14 rfl)) (mvT hZ (wd hw 15 rfl)) (mvT hZ (wd hw 11 rfl)) (mvT hZ (wd hw 16 rfl)) (by decide) (backOf (W := 2) (rmG l Z a0 hw [] a b kb cf (4 : Int32) n_ pp rr u4 cs fo h324 n0 f332 f328 f329 f330 f331 hB hlr (by decide) eu4 hCS hcs hSF hfo f333) hZ (wd hw 16 rfl) (wd hw 11 rfl) (by decide) (by decide)) (g := (mkF m 51 #[.val (.ref a), .val (.int pp), .val (.int rr), .val (.ref b272)] [(.int rr), (.int pp), (.int 4), (.ref a), (.int 4), (.ref b272)])) rfl (by rw [hml]; rfl) (argsL := [(.ref a), (.int 4), (.int pp), (.int rr)]) (rest := [(.int 4), (.ref b272)]) (lenOf pd_11 rfl) rfl (by show 2 * 0 + _ ≤ _; exact Nat.le_of_eq rfl) (hb hby d20_51) (fun _ _ => ⟨rfl, e324, (by decide : 1 + 0 ≤ _), (by decide : 11 + 0 ≤ _)⟩)
  dsimp only [Pt.U, Pt.locs, Pt.cells, Pt.slots] at X327 l327 y327 z327 st327 hQ327
  obtain rfl : k327 = 1 := y327
  obtain rfl : n327 = 11 := z327
  obtain ⟨rfl, N327q, e327⟩ := hQ327
  have N327 : Fr n0 L327 := by rw [l327]; exact Fr.app N324 N327q
  have G334 : Go p e below A0 (T327.setTop (mkF m 54 #[.val (.ref a), .val (.int pp), .val (.int rr), .val (.ref b272)] [(.int u4), (.int 4), (.ref b272)])) := fun tq kq => G326 tq (st327 _ kq)
  obtain ⟨cl335, Ar335, q335, S335, M335, H335, Gf335⟩ := id V324'
  have hi336 : ¬ ((4 : Int32) < 0 ∨ cl335.slots.size ≤ ((4 : Int32)).toNatClampNeg) := (inb_of S335 ⟨by decide, by decide⟩)
  obtain ⟨T337, h337, X337, e337, W337, st337⟩ := stC X327 hx hZ e327 Ar335 (j := (4 : Int32)) hi336 (g := (mkF m 54 #[.val (.ref a), .val (.int pp), .val (.int rr), .val (.ref b272)] [(.int u4), (.int 4), (.ref b272)])) rfl rfl (hb hby d20_54)
  rw [show nar .char u4 = u4 from own_nC lu4.R] at W337
  have N337 := Fr.snoc X337 N327 g_b272
  have V337 := Arv.set Ar335 q335 S335 M335 H335 Gf335 (own_fC lu4.R) W337 4 rfl (Nat.le_of_ble_eq_true rfl)
  have V337' : Arv Z h337 b272 k272 .char (11 : Int32) [(.int u0), (.int u1), (.int u2), (.int u3), (.int u4), (.int 0), (.int 0), (.int 0), (.int 0), (.int 0), (.int 0)] (.int 0) := by simp only [List.set_cons_succ, List.set_cons_zero] at V337; exact V337
  have G338 : Go p e below A0 (T337.setTop (mkF m 55 #[.val (.ref a), .val (.int pp), .val (.int rr), .val (.ref b272)] [])) := fun tq kq => G334 tq (st337 _ kq)
  have G339 : Go p e below A0 (T337.setTop (mkF m 61 #[.val (.ref a), .val (.int pp), .val (.int rr), .val (.ref b272)] [(.int rr), (.int pp), (.int 5), (.ref a), (.int 5), (.ref b272)])) := fun tq kq => G338 tq (by
    refine XS.aloadN X337.here hx rfl (hb hby d20_55) rfl rfl ?_
    refine XS.iconst X337.here hx rfl (hb hby d20_56) ?_
    refine XS.aloadN X337.here hx rfl (hb hby d20_57) rfl rfl ?_
    refine XS.iconst X337.here hx rfl (hb hby d20_58) ?_
    refine XS.iloadN X337.here hx rfl (hb hby d20_59) rfl ?_
    refine XS.iloadN X337.here hx rfl (hb hby d20_60) rfl ?_
    exact kq)
  obtain ⟨u5, eu5⟩ : ∃ q, q = own_gv cf n_ (5 : Int32) pp rr := ⟨_, rfl⟩
  have lu5 := own_gvL eu5 hB hlr
  have f341 := (f328.wr W337)
  have f342 := (f329.other W337 (Or.inl (Nat.ne_of_lt lt_a_b272)))
  have f343 := (f330.other W337 (Or.inl (Nat.ne_of_lt lt_a_b272)))
  have f344 := (f331.other W337 (Nat.ne_of_lt lt_b_b272))
  have f345 := (Nat.le_trans f332 (Keep.of_wr W337).1)
  have f346 := (f333.wr W337 g_b272)
  obtain ⟨_, _, ⟨T340, L340, k340, n340⟩, -, X340, ⟨Lc340, hQ340, l340, y340, z340⟩, st340⟩ := Jvm.LawKit.callS X337 hx (y := (⟨"com/example/role_delegation/roledelegation/RevocationKindNamedPinLaw", "g", "(Ljava/lang/String;IIC)C"⟩ : MethodName)) hown (mvT hZ (wd hw 14 rfl)) (mvT hZ (wd hw 15 rfl)) (mvT hZ (wd hw 11 rfl)) (mvT hZ (wd hw 16 rfl)) (by decide) (backOf (W := 2) (rmG l Z a0 hw [] a b kb cf (5 : Int32) n_ pp rr u5 cs fo h337 n0 f345 f341 f342 f343 f344 hB hlr (by decide) eu5 hCS hcs hSF hfo f346) hZ (wd hw 16 rfl) (wd hw 11 rfl) (by decide) (by decide)) (g := (mkF m 61 #[.val (.ref a), .val (.int pp), .val (.int rr), .val (.ref b272)] [(.int rr), (.int pp), (.int 5), (.ref a), (.int 5), (.ref b272)])) rfl (by rw [hml]; rfl) (argsL := [(.ref a), (.int 5), (.int pp), (.int rr)]) (rest := [(.int 5), (.ref b272)]) (lenOf pd_11 rfl) rfl (by show 2 * 0 + _ ≤ _; exact Nat.le_of_eq rfl) (hb hby d20_61) (fun _ _ => ⟨rfl, e337, (by decide : 1 + 0 ≤ _), (by decide : 11 + 0 ≤ _)⟩)
  dsimp only [Pt.U, Pt.locs, Pt.cells, Pt.slots] at X340 l340 y340 z340 st340 hQ340
  obtain rfl : k340 = 1 := y340
  obtain rfl : n340 = 11 := z340
  obtain ⟨rfl, N340q, e340⟩ := hQ340
  have N340 : Fr n0 L340 := by rw [l340]; exact Fr.app N337 N340q
  have G347 : Go p e below A0 (T340.setTop (mkF m 64 #[.val (.ref a), .val (.int pp), .val (.int rr), .val (.ref b272)] [(.int u5), (.int 5), (.ref b272)])) := fun tq kq => G339 tq (st340 _ kq)
  obtain ⟨cl348, Ar348, q348, S348, M348, H348, Gf348⟩ := id V337'
  have hi349 : ¬ ((5 : Int32) < 0 ∨ cl348.slots.size ≤ ((5 : Int32)).toNatClampNeg) := (inb_of S348 ⟨by decide, by decide⟩)
  obtain ⟨T350, h350, X350, e350, W350, st350⟩ := stC X340 hx hZ e340 Ar348 (j := (5 : Int32)) hi349 (g := (mkF m 64 #[.val (.ref a), .val (.int pp), .val (.int rr), .val (.ref b272)] [(.int u5), (.int 5), (.ref b272)])) rfl rfl (hb hby d20_64)
  rw [show nar .char u5 = u5 from own_nC lu5.R] at W350
  have N350 := Fr.snoc X350 N340 g_b272
  have V350 := Arv.set Ar348 q348 S348 M348 H348 Gf348 (own_fC lu5.R) W350 5 rfl (Nat.le_of_ble_eq_true rfl)
  have V350' : Arv Z h350 b272 k272 .char (11 : Int32) [(.int u0), (.int u1), (.int u2), (.int u3), (.int u4), (.int u5), (.int 0), (.int 0), (.int 0), (.int 0), (.int 0)] (.int 0) := by simp only [List.set_cons_succ, List.set_cons_zero] at V350; exact V350
  have G351 : Go p e below A0 (T350.setTop (mkF m 65 #[.val (.ref a), .val (.int pp), .val (.int rr), .val (.ref b272)] [])) := fun tq kq => G347 tq (st350 _ kq)
  have G352 : Go p e below A0 (T350.setTop (mkF m 73 #[.val (.ref a), .val (.int pp), .val (.int rr), .val (.ref b272)] [(.int rr), (.int pp), (.int 6), (.ref a), (.int 6), (.ref b272)])) := fun tq kq => G351 tq (by
    refine XS.aloadN X350.here hx rfl (hb hby d20_65) rfl rfl ?_
    refine XS.bipush X350.here hx rfl (hb hby d20_66) ?_
    refine XS.aloadN X350.here hx rfl (hb hby d20_68) rfl rfl ?_
    refine XS.bipush X350.here hx rfl (hb hby d20_69) ?_
    refine XS.iloadN X350.here hx rfl (hb hby d20_71) rfl ?_
    refine XS.iloadN X350.here hx rfl (hb hby d20_72) rfl ?_
    exact kq)
  obtain ⟨u6, eu6⟩ : ∃ q, q = own_gv cf n_ (6 : Int32) pp rr := ⟨_, rfl⟩
  have lu6 := own_gvL eu6 hB hlr
  have f354 := (f341.wr W350)
  have f355 := (f342.other W350 (Or.inl (Nat.ne_of_lt lt_a_b272)))
  have f356 := (f343.other W350 (Or.inl (Nat.ne_of_lt lt_a_b272)))
  have f357 := (f344.other W350 (Nat.ne_of_lt lt_b_b272))
  have f358 := (Nat.le_trans f345 (Keep.of_wr W350).1)
  have f359 := (f346.wr W350 g_b272)
  obtain ⟨_, _, ⟨T353, L353, k353, n353⟩, -, X353, ⟨Lc353, hQ353, l353, y353, z353⟩, st353⟩ := Jvm.LawKit.callS X350 hx (y := (⟨"com/example/role_delegation/roledelegation/RevocationKindNamedPinLaw", "g", "(Ljava/lang/String;IIC)C"⟩ : MethodName)) hown (mvT hZ (wd hw 14 rfl)) (mvT hZ (wd hw 15 rfl)) (mvT hZ (wd hw 11 rfl)) (mvT hZ (wd hw 16 rfl)) (by decide) (backOf (W := 2) (rmG l Z a0 hw [] a b kb cf (6 : Int32) n_ pp rr u6 cs fo h350 n0 f358 f354 f355 f356 f357 hB hlr (by decide) eu6 hCS hcs hSF hfo f359) hZ (wd hw 16 rfl) (wd hw 11 rfl) (by decide) (by decide)) (g := (mkF m 73 #[.val (.ref a), .val (.int pp), .val (.int rr), .val (.ref b272)] [(.int rr), (.int pp), (.int 6), (.ref a), (.int 6), (.ref b272)])) rfl (by rw [hml]; rfl) (argsL := [(.ref a), (.int 6), (.int pp), (.int rr)]) (rest := [(.int 6), (.ref b272)]) (lenOf pd_11 rfl) rfl (by show 2 * 0 + _ ≤ _; exact Nat.le_of_eq rfl) (hb hby d20_73) (fun _ _ => ⟨rfl, e350, (by decide : 1 + 0 ≤ _), (by decide : 11 + 0 ≤ _)⟩)
  dsimp only [Pt.U, Pt.locs, Pt.cells, Pt.slots] at X353 l353 y353 z353 st353 hQ353
  obtain rfl : k353 = 1 := y353
  obtain rfl : n353 = 11 := z353
  obtain ⟨rfl, N353q, e353⟩ := hQ353
  have N353 : Fr n0 L353 := by rw [l353]; exact Fr.app N350 N353q
  have G360 : Go p e below A0 (T353.setTop (mkF m 76 #[.val (.ref a), .val (.int pp), .val (.int rr), .val (.ref b272)] [(.int u6), (.int 6), (.ref b272)])) := fun tq kq => G352 tq (st353 _ kq)
  obtain ⟨cl361, Ar361, q361, S361, M361, H361, Gf361⟩ := id V350'
  have hi362 : ¬ ((6 : Int32) < 0 ∨ cl361.slots.size ≤ ((6 : Int32)).toNatClampNeg) := (inb_of S361 ⟨by decide, by decide⟩)
  obtain ⟨T363, h363, X363, e363, W363, st363⟩ := stC X353 hx hZ e353 Ar361 (j := (6 : Int32)) hi362 (g := (mkF m 76 #[.val (.ref a), .val (.int pp), .val (.int rr), .val (.ref b272)] [(.int u6), (.int 6), (.ref b272)])) rfl rfl (hb hby d20_76)
  rw [show nar .char u6 = u6 from own_nC lu6.R] at W363
  have N363 := Fr.snoc X363 N353 g_b272
  have V363 := Arv.set Ar361 q361 S361 M361 H361 Gf361 (own_fC lu6.R) W363 6 rfl (Nat.le_of_ble_eq_true rfl)
  have V363' : Arv Z h363 b272 k272 .char (11 : Int32) [(.int u0), (.int u1), (.int u2), (.int u3), (.int u4), (.int u5), (.int u6), (.int 0), (.int 0), (.int 0), (.int 0)] (.int 0) := by simp only [List.set_cons_succ, List.set_cons_zero] at V363; exact V363
  have G364 : Go p e below A0 (T363.setTop (mkF m 77 #[.val (.ref a), .val (.int pp), .val (.int rr), .val (.ref b272)] [])) := fun tq kq => G360 tq (st363 _ kq)
  have G365 : Go p e below A0 (T363.setTop (mkF m 85 #[.val (.ref a), .val (.int pp), .val (.int rr), .val (.ref b272)] [(.int rr), (.int pp), (.int 7), (.ref a), (.int 7), (.ref b272)])) := fun tq kq => G364 tq (by
    refine XS.aloadN X363.here hx rfl (hb hby d20_77) rfl rfl ?_
    refine XS.bipush X363.here hx rfl (hb hby d20_78) ?_
    refine XS.aloadN X363.here hx rfl (hb hby d20_80) rfl rfl ?_
    refine XS.bipush X363.here hx rfl (hb hby d20_81) ?_
    refine XS.iloadN X363.here hx rfl (hb hby d20_83) rfl ?_
    refine XS.iloadN X363.here hx rfl (hb hby d20_84) rfl ?_
    exact kq)
  obtain ⟨u7, eu7⟩ : ∃ q, q = own_gv cf n_ (7 : Int32) pp rr := ⟨_, rfl⟩
  have lu7 := own_gvL eu7 hB hlr
  have f367 := (f354.wr W363)
  have f368 := (f355.other W363 (Or.inl (Nat.ne_of_lt lt_a_b272)))
  have f369 := (f356.other W363 (Or.inl (Nat.ne_of_lt lt_a_b272)))
  have f370 := (f357.other W363 (Nat.ne_of_lt lt_b_b272))
  have f371 := (Nat.le_trans f358 (Keep.of_wr W363).1)
  have f372 := (f359.wr W363 g_b272)
  obtain ⟨_, _, ⟨T366, L366, k366, n366⟩, -, X366, ⟨Lc366, hQ366, l366, y366, z366⟩, st366⟩ := Jvm.LawKit.callS X363 hx (y := (⟨"com/example/role_delegation/roledelegation/RevocationKindNamedPinLaw", "g", "(Ljava/lang/String;IIC)C"⟩ : MethodName)) hown (mvT hZ (wd hw 14 rfl)) (mvT hZ (wd hw 15 rfl)) (mvT hZ (wd hw 11 rfl)) (mvT hZ (wd hw 16 rfl)) (by decide) (backOf (W := 2) (rmG l Z a0 hw [] a b kb cf (7 : Int32) n_ pp rr u7 cs fo h363 n0 f371 f367 f368 f369 f370 hB hlr (by decide) eu7 hCS hcs hSF hfo f372) hZ (wd hw 16 rfl) (wd hw 11 rfl) (by decide) (by decide)) (g := (mkF m 85 #[.val (.ref a), .val (.int pp), .val (.int rr), .val (.ref b272)] [(.int rr), (.int pp), (.int 7), (.ref a), (.int 7), (.ref b272)])) rfl (by rw [hml]; rfl) (argsL := [(.ref a), (.int 7), (.int pp), (.int rr)]) (rest := [(.int 7), (.ref b272)]) (lenOf pd_11 rfl) rfl (by show 2 * 0 + _ ≤ _; exact Nat.le_of_eq rfl) (hb hby d20_85) (fun _ _ => ⟨rfl, e363, (by decide : 1 + 0 ≤ _), (by decide : 11 + 0 ≤ _)⟩)
  dsimp only [Pt.U, Pt.locs, Pt.cells, Pt.slots] at X366 l366 y366 z366 st366 hQ366
  obtain rfl : k366 = 1 := y366
  obtain rfl : n366 = 11 := z366
  obtain ⟨rfl, N366q, e366⟩ := hQ366
  have N366 : Fr n0 L366 := by rw [l366]; exact Fr.app N363 N366q
  have G373 : Go p e below A0 (T366.setTop (mkF m 88 #[.val (.ref a), .val (.int pp), .val (.int rr), .val (.ref b272)] [(.int u7), (.int 7), (.ref b272)])) := fun tq kq => G365 tq (st366 _ kq)
  obtain ⟨cl374, Ar374, q374, S374, M374, H374, Gf374⟩ := id V363'
  have hi375 : ¬ ((7 : Int32) < 0 ∨ cl374.slots.size ≤ ((7 : Int32)).toNatClampNeg) := (inb_of S374 ⟨by decide, by decide⟩)
  obtain ⟨T376, h376, X376, e376, W376, st376⟩ := stC X366 hx hZ e366 Ar374 (j := (7 : Int32)) hi375 (g := (mkF m 88 #[.val (.ref a), .val (.int pp), .val (.int rr), .val (.ref b272)] [(.int u7), (.int 7), (.ref b272)])) rfl rfl (hb hby d20_88)
  rw [show nar .char u7 = u7 from own_nC lu7.R] at W376
  have N376 := Fr.snoc X376 N366 g_b272
  have V376 := Arv.set Ar374 q374 S374 M374 H374 Gf374 (own_fC lu7.R) W376 7 rfl (Nat.le_of_ble_eq_true rfl)
  have V376' : Arv Z h376 b272 k272 .char (11 : Int32) [(.int u0), (.int u1), (.int u2), (.int u3), (.int u4), (.int u5), (.int u6), (.int u7), (.int 0), (.int 0), (.int 0)] (.int 0) := by simp only [List.set_cons_succ, List.set_cons_zero] at V376; exact V376
  have G377 : Go p e below A0 (T376.setTop (mkF m 89 #[.val (.ref a), .val (.int pp), .val (.int rr), .val (.ref b272)] [])) := fun tq kq => G373 tq (st376 _ kq)
  have G378 : Go p e below A0 (T376.setTop (mkF m 97 #[.val (.ref a), .val (.int pp), .val (.int rr), .val (.ref b272)] [(.int rr), (.int pp), (.int 8), (.ref a), (.int 8), (.ref b272)])) := fun tq kq => G377 tq (by
    refine XS.aloadN X376.here hx rfl (hb hby d20_89) rfl rfl ?_
    refine XS.bipush X376.here hx rfl (hb hby d20_90) ?_
    refine XS.aloadN X376.here hx rfl (hb hby d20_92) rfl rfl ?_
    refine XS.bipush X376.here hx rfl (hb hby d20_93) ?_
    refine XS.iloadN X376.here hx rfl (hb hby d20_95) rfl ?_
    refine XS.iloadN X376.here hx rfl (hb hby d20_96) rfl ?_
    exact kq)
  obtain ⟨u8, eu8⟩ : ∃ q, q = own_gv cf n_ (8 : Int32) pp rr := ⟨_, rfl⟩
  have lu8 := own_gvL eu8 hB hlr
  have f380 := (f367.wr W376)
  have f381 := (f368.other W376 (Or.inl (Nat.ne_of_lt lt_a_b272)))
  have f382 := (f369.other W376 (Or.inl (Nat.ne_of_lt lt_a_b272)))
  have f383 := (f370.other W376 (Nat.ne_of_lt lt_b_b272))
  have f384 := (Nat.le_trans f371 (Keep.of_wr W376).1)
  have f385 := (f372.wr W376 g_b272)
  obtain ⟨_, _, ⟨T379, L379, k379, n379⟩, -, X379, ⟨Lc379, hQ379, l379, y379, z379⟩, st379⟩ := Jvm.LawKit.callS X376 hx (y := (⟨"com/example/role_delegation/roledelegation/RevocationKindNamedPinLaw", "g", "(Ljava/lang/String;IIC)C"⟩ : MethodName)) hown (mvT hZ (wd hw 14 rfl)) (mvT hZ (wd hw 15 rfl)) (mvT hZ (wd hw 11 rfl)) (mvT hZ (wd hw 16 rfl)) (by decide) (backOf (W := 2) (rmG l Z a0 hw [] a b kb cf (8 : Int32) n_ pp rr u8 cs fo h376 n0 f384 f380 f381 f382 f383 hB hlr (by decide) eu8 hCS hcs hSF hfo f385) hZ (wd hw 16 rfl) (wd hw 11 rfl) (by decide) (by decide)) (g := (mkF m 97 #[.val (.ref a), .val (.int pp), .val (.int rr), .val (.ref b272)] [(.int rr), (.int pp), (.int 8), (.ref a), (.int 8), (.ref b272)])) rfl (by rw [hml]; rfl) (argsL := [(.ref a), (.int 8), (.int pp), (.int rr)]) (rest := [(.int 8), (.ref b272)]) (lenOf pd_11 rfl) rfl (by show 2 * 0 + _ ≤ _; exact Nat.le_of_eq rfl) (hb hby d20_97) (fun _ _ => ⟨rfl, e376, (by decide : 1 + 0 ≤ _), (by decide : 11 + 0 ≤ _)⟩)
  dsimp only [Pt.U, Pt.locs, Pt.cells, Pt.slots] at X379 l379 y379 z379 st379 hQ379
  obtain rfl : k379 = 1 := y379
  obtain rfl : n379 = 11 := z379
  obtain ⟨rfl, N379q, e379⟩ := hQ379
  have N379 : Fr n0 L379 := by rw [l379]; exact Fr.app N376 N379q
  have G386 : Go p e below A0 (T379.setTop (mkF m 100 #[.val (.ref a), .val (.int pp), .val (.int rr), .val (.ref b272)] [(.int u8), (.int 8), (.ref b272)])) := fun tq kq => G378 tq (st379 _ kq)
  obtain ⟨cl387, Ar387, q387, S387, M387, H387, Gf387⟩ := id V376'
  have hi388 : ¬ ((8 : Int32) < 0 ∨ cl387.slots.size ≤ ((8 : Int32)).toNatClampNeg) := (inb_of S387 ⟨by decide, by decide⟩)
  obtain ⟨T389, h389, X389, e389, W389, st389⟩ := stC X379 hx hZ e379 Ar387 (j := (8 : Int32)) hi388 (g := (mkF m 100 #[.val (.ref a), .val (.int pp), .val (.int rr), .val (.ref b272)] [(.int u8), (.int 8), (.ref b272)])) rfl rfl (hb hby d20_100)
  rw [show nar .char u8 = u8 from own_nC lu8.R] at W389
  have N389 := Fr.snoc X389 N379 g_b272
  have V389 := Arv.set Ar387 q387 S387 M387 H387 Gf387 (own_fC lu8.R) W389 8 rfl (Nat.le_of_ble_eq_true rfl)
  have V389' : Arv Z h389 b272 k272 .char (11 : Int32) [(.int u0), (.int u1), (.int u2), (.int u3), (.int u4), (.int u5), (.int u6), (.int u7), (.int u8), (.int 0), (.int 0)] (.int 0) := by simp only [List.set_cons_succ, List.set_cons_zero] at V389; exact V389
  have G390 : Go p e below A0 (T389.setTop (mkF m 101 #[.val (.ref a), .val (.int pp), .val (.int rr), .val (.ref b272)] [])) := fun tq kq => G386 tq (st389 _ kq)
  have G391 : Go p e below A0 (T389.setTop (mkF m 109 #[.val (.ref a), .val (.int pp), .val (.int rr), .val (.ref b272)] [(.int rr), (.int pp), (.int 9), (.ref a), (.int 9), (.ref b272)])) := fun tq kq => G390 tq (by
    refine XS.aloadN X389.here hx rfl (hb hby d20_101) rfl rfl ?_
    refine XS.bipush X389.here hx rfl (hb hby d20_102) ?_
    refine XS.aloadN X389.here hx rfl (hb hby d20_104) rfl rfl ?_
    refine XS.bipush X389.here hx rfl (hb hby d20_105) ?_
    refine XS.iloadN X389.here hx rfl (hb hby d20_107) rfl ?_
    refine XS.iloadN X389.here hx rfl (hb hby d20_108) rfl ?_
    exact kq)
  obtain ⟨u9, eu9⟩ : ∃ q, q = own_gv cf n_ (9 : Int32) pp rr := ⟨_, rfl⟩
  have lu9 := own_gvL eu9 hB hlr
  have f393 := (f380.wr W389)
  have f394 := (f381.other W389 (Or.inl (Nat.ne_of_lt lt_a_b272)))
  have f395 := (f382.other W389 (Or.inl (Nat.ne_of_lt lt_a_b272)))
  have f396 := (f383.other W389 (Nat.ne_of_lt lt_b_b272))
  have f397 := (Nat.le_trans f384 (Keep.of_wr W389).1)
  have f398 := (f385.wr W389 g_b272)
  obtain ⟨_, _, ⟨T392, L392, k392, n392⟩, -, X392, ⟨Lc392, hQ392, l392, y392, z392⟩, st392⟩ := Jvm.LawKit.callS X389 hx (y := (⟨"com/example/role_delegation/roledelegation/RevocationKindNamedPinLaw", "g", "(Ljava/lang/String;IIC)C"⟩ : MethodName)) hown (mvT hZ (wd hw 14 rfl)) (mvT hZ (wd hw 15 rfl)) (mvT hZ (wd hw 11 rfl)) (mvT hZ (wd hw 16 rfl)) (by decide) (backOf (W := 2) (rmG l Z a0 hw [] a b kb cf (9 : Int32) n_ pp rr u9 cs fo h389 n0 f397 f393 f394 f395 f396 hB hlr (by decide) eu9 hCS hcs hSF hfo f398) hZ (wd hw 16 rfl) (wd hw 11 rfl) (by decide) (by decide)) (g := (mkF m 109 #[.val (.ref a), .val (.int pp), .val (.int rr), .val (.ref b272)] [(.int rr), (.int pp), (.int 9), (.ref a), (.int 9), (.ref b272)])) rfl (by rw [hml]; rfl) (argsL := [(.ref a), (.int 9), (.int pp), (.int rr)]) (rest := [(.int 9), (.ref b272)]) (lenOf pd_11 rfl) rfl (by show 2 * 0 + _ ≤ _; exact Nat.le_of_eq rfl) (hb hby d20_109) (fun _ _ => ⟨rfl, e389, (by decide : 1 + 0 ≤ _), (by decide : 11 + 0 ≤ _)⟩)
  dsimp only [Pt.U, Pt.locs, Pt.cells, Pt.slots] at X392 l392 y392 z392 st392 hQ392
  obtain rfl : k392 = 1 := y392
  obtain rfl : n392 = 11 := z392
  obtain ⟨rfl, N392q, e392⟩ := hQ392
  have N392 : Fr n0 L392 := by rw [l392]; exact Fr.app N389 N392q
  have G399 : Go p e below A0 (T392.setTop (mkF m 112 #[.val (.ref a), .val (.int pp), .val (.int rr), .val (.ref b272)] [(.int u9), (.int 9), (.ref b272)])) := fun tq kq => G391 tq (st392 _ kq)
  obtain ⟨cl400, Ar400, q400, S400, M400, H400, Gf400⟩ := id V389'
  have hi401 : ¬ ((9 : Int32) < 0 ∨ cl400.slots.size ≤ ((9 : Int32)).toNatClampNeg) := (inb_of S400 ⟨by decide, by decide⟩)
  obtain ⟨T402, h402, X402, e402, W402, st402⟩ := stC X392 hx hZ e392 Ar400 (j := (9 : Int32)) hi401 (g := (mkF m 112 #[.val (.ref a), .val (.int pp), .val (.int rr), .val (.ref b272)] [(.int u9), (.int 9), (.ref b272)])) rfl rfl (hb hby d20_112)
  rw [show nar .char u9 = u9 from own_nC lu9.R] at W402
  have N402 := Fr.snoc X402 N392 g_b272
  have V402 := Arv.set Ar400 q400 S400 M400 H400 Gf400 (own_fC lu9.R) W402 9 rfl (Nat.le_of_ble_eq_true rfl)
  have V402' : Arv Z h402 b272 k272 .char (11 : Int32) [(.int u0), (.int u1), (.int u2), (.int u3), (.int u4), (.int u5), (.int u6), (.int u7), (.int u8), (.int u9), (.int 0)] (.int 0) := by simp only [List.set_cons_succ, List.set_cons_zero] at V402; exact V402
  have G403 : Go p e below A0 (T402.setTop (mkF m 113 #[.val (.ref a), .val (.int pp), .val (.int rr), .val (.ref b272)] [])) := fun tq kq => G399 tq (st402 _ kq)
  have G404 : Go p e below A0 (T402.setTop (mkF m 121 #[.val (.ref a), .val (.int pp), .val (.int rr), .val (.ref b272)] [(.int rr), (.int pp), (.int 10), (.ref a), (.int 10), (.ref b272)])) := fun tq kq => G403 tq (by
    refine XS.aloadN X402.here hx rfl (hb hby d20_113) rfl rfl ?_
    refine XS.bipush X402.here hx rfl (hb hby d20_114) ?_
    refine XS.aloadN X402.here hx rfl (hb hby d20_116) rfl rfl ?_
    refine XS.bipush X402.here hx rfl (hb hby d20_117) ?_
    refine XS.iloadN X402.here hx rfl (hb hby d20_119) rfl ?_
    refine XS.iloadN X402.here hx rfl (hb hby d20_120) rfl ?_
    exact kq)
  obtain ⟨u10, eu10⟩ : ∃ q, q = own_gv cf n_ (10 : Int32) pp rr := ⟨_, rfl⟩
  have lu10 := own_gvL eu10 hB hlr
  have f406 := (f393.wr W402)
  have f407 := (f394.other W402 (Or.inl (Nat.ne_of_lt lt_a_b272)))
  have f408 := (f395.other W402 (Or.inl (Nat.ne_of_lt lt_a_b272)))
  have f409 := (f396.other W402 (Nat.ne_of_lt lt_b_b272))
  have f410 := (Nat.le_trans f397 (Keep.of_wr W402).1)
  have f411 := (f398.wr W402 g_b272)
  obtain ⟨_, _, ⟨T405, L405, k405, n405⟩, -, X405, ⟨Lc405, hQ405, l405, y405, z405⟩, st405⟩ := Jvm.LawKit.callS X402 hx (y := (⟨"com/example/role_delegation/roledelegation/RevocationKindNamedPinLaw", "g", "(Ljava/lang/String;IIC)C"⟩ : MethodName)) hown (mvT hZ (wd hw 14 rfl)) (mvT hZ (wd hw 15 rfl)) (mvT hZ (wd hw 11 rfl)) (mvT hZ (wd hw 16 rfl)) (by decide) (backOf (W := 2) (rmG l Z a0 hw [] a b kb cf (10 : Int32) n_ pp rr u10 cs fo h402 n0 f410 f406 f407 f408 f409 hB hlr (by decide) eu10 hCS hcs hSF hfo f411) hZ (wd hw 16 rfl) (wd hw 11 rfl) (by decide) (by decide)) (g := (mkF m 121 #[.val (.ref a), .val (.int pp), .val (.int rr), .val (.ref b272)] [(.int rr), (.int pp), (.int 10), (.ref a), (.int 10), (.ref b272)])) rfl (by rw [hml]; rfl) (argsL := [(.ref a), (.int 10), (.int pp), (.int rr)]) (rest := [(.int 10), (.ref b272)]) (lenOf pd_11 rfl) rfl (by show 2 * 0 + _ ≤ _; exact Nat.le_of_eq rfl) (hb hby d20_121) (fun _ _ => ⟨rfl, e402, (by decide : 1 + 0 ≤ _), (by decide : 11 + 0 ≤ _)⟩)
  dsimp only [Pt.U, Pt.locs, Pt.cells, Pt.slots] at X405 l405 y405 z405 st405 hQ405
  obtain rfl : k405 = 1 := y405
  obtain rfl : n405 = 11 := z405
  obtain ⟨rfl, N405q, e405⟩ := hQ405
  have N405 : Fr n0 L405 := by rw [l405]; exact Fr.app N402 N405q
  have G412 : Go p e below A0 (T405.setTop (mkF m 124 #[.val (.ref a), .val (.int pp), .val (.int rr), .val (.ref b272)] [(.int u10), (.int 10), (.ref b272)])) := fun tq kq => G404 tq (st405 _ kq)
  obtain ⟨cl413, Ar413, q413, S413, M413, H413, Gf413⟩ := id V402'
  have hi414 : ¬ ((10 : Int32) < 0 ∨ cl413.slots.size ≤ ((10 : Int32)).toNatClampNeg) := (inb_of S413 ⟨by decide, by decide⟩)
  obtain ⟨T415, h415, X415, e415, W415, st415⟩ := stC X405 hx hZ e405 Ar413 (j := (10 : Int32)) hi414 (g := (mkF m 124 #[.val (.ref a), .val (.int pp), .val (.int rr), .val (.ref b272)] [(.int u10), (.int 10), (.ref b272)])) rfl rfl (hb hby d20_124)
  rw [show nar .char u10 = u10 from own_nC lu10.R] at W415
  have N415 := Fr.snoc X415 N405 g_b272
  have V415 := Arv.set Ar413 q413 S413 M413 H413 Gf413 (own_fC lu10.R) W415 10 rfl (Nat.le_of_ble_eq_true rfl)
  have V415' : Arv Z h415 b272 k272 .char (11 : Int32) [(.int u0), (.int u1), (.int u2), (.int u3), (.int u4), (.int u5), (.int u6), (.int u7), (.int u8), (.int u9), (.int u10)] (.int 0) := by simp only [List.set_cons_succ, List.set_cons_zero] at V415; exact V415
  have G416 : Go p e below A0 (T415.setTop (mkF m 125 #[.val (.ref a), .val (.int pp), .val (.int rr), .val (.ref b272)] [])) := fun tq kq => G412 tq (st415 _ kq)
  have f418 := (Nat.le_trans f410 (Keep.of_wr W415).1)
  obtain ⟨T417, h417, X417, e417, E417, A417, D417, -, st417⟩ := newO X415 hx hZ hown (wd hw 52 rfl) (wd hw 3 rfl) (wd hw 2 rfl) e415 (g := (mkF m 125 #[.val (.ref a), .val (.int pp), .val (.int rr), .val (.ref b272)] [])) rfl (hb hby d20_125) (by decide) (by decide)
  obtain ⟨b417, g417⟩ : ∃ z, z = h415.size := ⟨_, rfl⟩
  rw [← g417] at A417 D417 st417
  have f419 := (Nat.le_trans (Nat.le_trans (Nat.le_trans (Nat.le_trans (Nat.le_trans (Nat.le_trans (Nat.le_trans (Nat.le_trans (Nat.le_trans (Nat.le_trans (Nat.le_trans (Nat.le_trans (Nat.le_refl h0.size) E272.1) (Keep.of_wr W285).1) (Keep.of_wr W298).1) (Keep.of_wr W311).1) (Keep.of_wr W324).1) (Keep.of_wr W337).1) (Keep.of_wr W350).1) (Keep.of_wr W363).1) (Keep.of_wr W376).1) (Keep.of_wr W389).1) (Keep.of_wr W402).1) (Keep.of_wr W415).1)
  have sz_b417 : h0.size ≤ b417 := Nat.le_trans f419 (Nat.le_of_eq g417.symm)
  have g_b417 : n0 ≤ b417 := Nat.le_trans f418 (Nat.le_of_eq g417.symm)
  have lt_a_b417 : a < b417 := Nat.lt_of_lt_of_le (f406.wr W415).lt (Nat.le_of_eq g417.symm)
  have lt_b_b417 : b < b417 := Nat.lt_of_lt_of_le (f409.other W415 (Nat.ne_of_lt lt_b_b272)).lt (Nat.le_of_eq g417.symm)
  have lt_b272_b417 : b272 < b417 := Nat.lt_of_lt_of_le V415'.lt (Nat.le_of_eq g417.symm)
  have F417_value : Fld Z h417 b417 "java/lang/String" "value" "[B" .null := D417 (Or.inr (wd hw 5 rfl)) (ty := (.array .byte)) (by decide)
  have F417_coder : Fld Z h417 b417 "java/lang/String" "coder" "B" (.int 0) := D417 (Or.inr (wd hw 6 rfl)) (ty := .byte) (by decide)
  have G420 : Go p e below A0 (T417.setTop (mkF m 128 #[.val (.ref a), .val (.int pp), .val (.int rr), .val (.ref b272)] [(.ref b417)])) := fun tq kq => G416 tq (st417 _ kq)
  have G421 : Go p e below A0 (T417.setTop (mkF m 130 #[.val (.ref a), .val (.int pp), .val (.int rr), .val (.ref b272)] [(.ref b272), (.ref b417), (.ref b417)])) := fun tq kq => G420 tq (by
    refine XS.dup X417.here hx rfl (hb hby d20_128) rfl rfl ?_
    refine XS.aloadN X417.here hx rfl (hb hby d20_129) rfl rfl ?_
    exact kq)
  have f423 := (Nat.le_trans f418 E417.1)
  have f424 := (V415'.ext E417)
  have f425 := ((f411.wr W415 g_b272).ext E417)
  obtain ⟨_, _, ⟨T422, L422, k422, n422⟩, -, X422, ⟨Lc422, hQ422, l422, y422, z422⟩, st422⟩ := X417.specialBack hx (y := (⟨"java/lang/String", "<init>", "([C)V"⟩ : MethodName)) rfl hown (mvT hZ (wd hw 53 rfl)) (mvT hZ (wd hw 54 rfl)) (mvT hZ (wd hw 55 rfl)) (by decide) (backOf (W := 1) (rmH l Z a0 hw [] b417 b272 k272 (own_gw cf n_ pp rr) (11 : Int32) cs fo h417 n0 f423 A417 g_b417 F417_value F417_coder ((Af.of f424).fn (own_cT11 u0 u1 u2 u3 u4 u5 u6 u7 u8 u9 u10 (own_gw cf n_ pp rr) eu0 eu1 eu2 eu3 eu4 eu5 eu6 eu7 eu8 eu9 eu10)) (Nat.ne_of_lt lt_b272_b417) (fun j => own_gvL rfl hB hlr) (by decide) hCS hcs hSF hfo f425) hZ (wd hw 55 rfl) (wd hw 2 rfl) (by decide) (by decide)) (g := (mkF m 130 #[.val (.ref a), .val (.int pp), .val (.int rr), .val (.ref b272)] [(.ref b272), (.ref b417), (.ref b417)])) rfl (by rw [hml]; rfl) (Steps.refl _) (a := b417) (argsL := [(.ref b272)]) (rest := [(.ref b417)]) (lenOf pd_12 rfl) rfl (by show 2 * 0 + _ ≤ _; exact Nat.le_of_eq rfl) (hb hby d20_130) (fun _ _ => ⟨rfl, e417, (by decide : 2 + 1 ≤ _), (by decide : 15 + 12 ≤ _)⟩)
  dsimp only [Pt.U, Pt.locs, Pt.cells, Pt.slots] at X422 l422 y422 z422 st422 hQ422
  obtain rfl : k422 = 3 := y422
  obtain rfl : n422 = 27 := z422
  obtain ⟨rfl, N422q, K422, bb422, kk422, Fv422, Fc422, Ab422⟩ := hQ422
  have N422 : Fr n0 L422 := by rw [l422]; exact Fr.app N415 N422q
  have G426 : Go p e below A0 (T422.setTop (mkF m 133 #[.val (.ref a), .val (.int pp), .val (.int rr), .val (.ref b272)] [(.ref b417)])) := fun tq kq => G421 tq (st422.trans kq)
  have f427 := (A417.keep K422)
  obtain ⟨fs, hr, hrun, hended, hW, hsame⟩ := X422.leave (v := some (.ref b417)) (fun h => by rw [Bd.returns] at h; cases h)
  refine ⟨_, _, (by rw [← hA0]; exact G426 _ (retOut X422 hx (t := (.object "java/lang/String")) Bd.returns rfl (Or.inr (Or.inr (Or.inr (Or.inr ⟨rfl, rfl, rfl⟩)))) (hb hby d20_133) hr)), hrun, hended, _, _, rfl, ?_, ⟨_, rfl⟩, hW, hsame.mono (by decide) (by decide)⟩
  show Qw Z (11 : Int32) (own_gw cf n_ pp rr) h0 n0 _ T422.heap _
  exact ⟨b417, bb422, kk422, rfl, N422, (((((((((((((((Keep.refl h0 []).ext E272).wr W285 (Or.inr sz_b272)).wr W298 (Or.inr sz_b272)).wr W311 (Or.inr sz_b272)).wr W324 (Or.inr sz_b272)).wr W337 (Or.inr sz_b272)).wr W350 (Or.inr sz_b272)).wr W363 (Or.inr sz_b272)).wr W376 (Or.inr sz_b272)).wr W389 (Or.inr sz_b272)).wr W402 (Or.inr sz_b272)).wr W415 (Or.inr sz_b272)).ext E417).trans K422 (allS (P := fun x => x ∈ [] ∨ h0.size ≤ x) (Or.inr sz_b417) all0)), g_b417, f427, Fv422, Fc422, Ab422⟩
set_option maxRecDepth 65536 in
set_option maxHeartbeats 40000000 in
theorem rmW8 (l : Launch) (Z : State) (a0 : Array Value) (hw : ∀ d ∈ tables_1, d.before a0 Z = true) (ws : List Jvm.Cond) (a b : Addr) (kb : ClassId) (cf : Nat → Int32) (n_ pp rr : Int32) (cs : Int32) (fo : Value) (h0 : Heap) (n0 : Nat) (Z0 : n0 ≤ h0.size) (E : Exa Z h0 a "java/lang/String") (Fv : Fld Z h0 a "java/lang/String" "value" "[B" (.ref b)) (Fc : Fld Z h0 a "java/lang/String" "coder" "B" (.int 0)) (Ab : Af Z h0 b kb .byte n_ (fun j => .int (own_by (cf j)))) (hB : ∀ j, own_L (cf j)) (hlr : own_L rr) (hCS : Sta Z Z.heap "java/lang/String" "COMPACT_STRINGS" "Z" (.int cs)) (hcs : ¬ cs = (0 : Int32)) (hSF : Sta Z Z.heap "jdk/internal/util/Preconditions" "SIOOBE_FORMATTER" "Ljava/util/function/BiFunction;" fo) (hfo : fo.isRef = true) (hold : Old Z n0 h0) :
    MetFree l (⟨"com/example/role_delegation/roledelegation/RevocationKindNamedPinLaw", "w8", "(Ljava/lang/String;IC)Ljava/lang/String;"⟩ : MethodName) (head1 (Jvm.Cond.code (⟨"com/example/role_delegation/roledelegation/RevocationKindNamedPinLaw", "w8", "(Ljava/lang/String;IC)Ljava/lang/String;"⟩ : MethodName) method_4_code 4 (some (.object "java/lang/String")) :: ws) (Rm 5 3 24 70)) (fun aa UU => aa = #[(.ref a), (.int pp), (.int rr)] ∧ Z.Warmed39 UU.vm ∧ UU.heap = h0) (fun _ _ _ _ _ => True) (fun _ UU oo U' => ∃ v L, oo = .returned v ∧ Qw Z (8 : Int32) (own_gw cf n_ pp rr) h0 n0 v U'.heap L ∧ FrameEnd UU oo U' L (Rm 5 3 24 70).cells (Rm 5 3 24 70).slots) := by
  refine MetFree.of_bodySF (plainFor_of_name pn_3) hisR ?_
  intro p e s m args below meth c s₁ Bd hml0 hP hK
  obtain ⟨rfl, hZ, hh⟩ := hP
  have hx := Bd.exec
  have hby := Bd.bytes
  have hml : c.maxLocals = 4 := hml0
  have hown : s.vm.findClass "com/example/role_delegation/roledelegation/RevocationKindNamedPinLaw" = some m.cls := findClass_of_methodNamed Bd.named
  have hnm := (name_of_methodNamed Bd.named Bd.method).1
  have X0 : Stand p l e (Rm 5 3 24 70) s m #[(.ref a), (.int pp), (.int rr)] below meth c s₁ [] 0 0 := Stand.of_body Bd
  have e0 : s₁.heap = h0 := by rw [← hh, Bd.state]; rfl
  have N0 := Fr.nil n0
  obtain ⟨A0, hA0⟩ : ∃ A, A = s₁.setTop (entryFrame m #[(.ref a), (.int pp), (.int rr)] 4) := ⟨_, rfl⟩
  have G0 : Go p e below A0 (s₁.setTop (mkF m 0 #[.val (.ref a), .val (.int pp), .val (.int rr), .unset] [])) := fun tq kq => by rw [hA0]; exact castTop (ef_rmW8 m a pp rr) kq
  have G428 : Go p e below A0 (s₁.setTop (mkF m 2 #[.val (.ref a), .val (.int pp), .val (.int rr), .unset] [(.int 8)])) := fun tq kq => G0 tq (by
    refine XS.bipush X0.here hx rfl (hb hby d21_0) ?_
    exact kq)
  obtain ⟨T429, h429, k429, X429, e429, E429, A429, st429⟩ := newP X0 hx hZ (wd hw 13 rfl) e0 (g := (mkF m 2 #[.val (.ref a), .val (.int pp), .val (.int rr), .unset] [(.int 8)])) rfl (hb hby d21_2) rfl (by decide) (cap := 8) (by decide) (by decide) (by decide) (by decide)
  obtain ⟨b429, g429⟩ : ∃ z, z = h0.size := ⟨_, rfl⟩
  rw [← g429] at A429 st429
  have sz_b429 : h0.size ≤ b429 := Nat.le_trans (Nat.le_refl h0.size) (Nat.le_of_eq g429.symm)
  have g_b429 : n0 ≤ b429 := Nat.le_trans Z0 (Nat.le_of_eq g429.symm)
  have lt_a_b429 : a < b429 := Nat.lt_of_lt_of_le E.lt (Nat.le_of_eq g429.symm)
  have lt_b_b429 : b < b429 := Nat.lt_of_lt_of_le Ab.lt (Nat.le_of_eq g429.symm)
  have V429 : Arv Z h429 b429 k429 .char (8 : Int32) [(.int 0), (.int 0), (.int 0), (.int 0), (.int 0), (.int 0), (.int 0), (.int 0)] (.int 0) := (Arv.new A429 (by decide)).pad (pad_rep [] (.int 0) 8)
  have G430 : Go p e below A0 (T429.setTop (mkF m 4 #[.val (.ref a), .val (.int pp), .val (.int rr), .unset] [(.ref b429)])) := fun tq kq => G428 tq (st429 _ kq)
  have G431 : Go p e below A0 (T429.setTop (mkF m 11 #[.val (.ref a), .val (.int pp), .val (.int rr), .val (.ref b429)] [(.int rr), (.int pp), (.int 0), (.ref a), (.int 0), (.ref b429)])) := fun tq kq => G430 tq (by
    refine XS.astoreN X429.here hx rfl (hb hby d21_4) rfl rfl (l' := #[.val (.ref a), .val (.int pp), .val (.int rr), .val (.ref b429)]) rfl ?_
    refine XS.aloadN X429.here hx rfl (hb hby d21_5) rfl rfl ?_
    refine XS.iconst X429.here hx rfl (hb hby d21_6) ?_
    refine XS.aloadN X429.here hx rfl (hb hby d21_7) rfl rfl ?_
    refine XS.iconst X429.here hx rfl (hb hby d21_8) ?_
    refine XS.iloadN X429.here hx rfl (hb hby d21_9) rfl ?_
    refine XS.iloadN X429.here hx rfl (hb hby d21_10) rfl ?_
    exact kq)
  obtain ⟨u0, eu0⟩ : ∃ q, q = own_gv cf n_ (0 : Int32) pp rr := ⟨_, rfl⟩
  have lu0 := own_gvL eu0 hB hlr
  have f433 := (E.ext E429)
  have f434 := (Fv.ext E429)
  have f435 := (Fc.ext E429)
  have f436 := (Ab.ext E429)
  have f437 := (Nat.le_trans Z0 E429.1)
  have f438 := (hold.ext E429)
  obtain ⟨_, _, ⟨T432, L432, k432, n432⟩, -, X432, ⟨Lc432, hQ432, l432, y432, z432⟩, st432⟩ := Jvm.LawKit.callS X429 hx (y := (⟨"com/example/role_delegation/roledelegation/RevocationKindNamedPinLaw", "g", "(Ljava/lang/String;IIC)C"⟩ : MethodName)) hown (mvT hZ (wd hw 14 rfl)) (mvT hZ (wd hw 15 rfl)) (mvT hZ (wd hw 11 rfl)) (mvT hZ (wd hw 16 rfl)) (by decide) (backOf (W := 2) (rmG l Z a0 hw [] a b kb cf (0 : Int32) n_ pp rr u0 cs fo h429 n0 f437 f433 f434 f435 f436 hB hlr (by decide) eu0 hCS hcs hSF hfo f438) hZ (wd hw 16 rfl) (wd hw 11 rfl) (by decide) (by decide)) (g := (mkF m 11 #[.val (.ref a), .val (.int pp), .val (.int rr), .val (.ref b429)] [(.int rr), (.int pp), (.int 0), (.ref a), (.int 0), (.ref b429)])) rfl (by rw [hml]; rfl) (argsL := [(.ref a), (.int 0), (.int pp), (.int rr)]) (rest := [(.int 0), (.ref b429)]) (lenOf pd_11 rfl) rfl (by show 2 * 0 + _ ≤ _; exact Nat.le_of_eq rfl) (hb hby d21_11) (fun _ _ => ⟨rfl, e429, (by decide : 1 + 0 ≤ _), (by decide : 8 + 0 ≤ _)⟩)
  dsimp only [Pt.U, Pt.locs, Pt.cells, Pt.slots] at X432 l432 y432 z432 st432 hQ432
  obtain rfl : k432 = 1 := y432
  obtain rfl : n432 = 8 := z432
  obtain ⟨rfl, N432q, e432⟩ := hQ432
  have N432 : Fr n0 L432 := by rw [l432]; exact Fr.app N0 N432q
  have G439 : Go p e below A0 (T432.setTop (mkF m 14 #[.val (.ref a), .val (.int pp), .val (.int rr), .val (.ref b429)] [(.int u0), (.int 0), (.ref b429)])) := fun tq kq => G431 tq (st432 _ kq)
  obtain ⟨cl440, Ar440, q440, S440, M440, H440, Gf440⟩ := id V429
  have hi441 : ¬ ((0 : Int32) < 0 ∨ cl440.slots.size ≤ ((0 : Int32)).toNatClampNeg) := (inb_of S440 ⟨by decide, by decide⟩)
  obtain ⟨T442, h442, X442, e442, W442, st442⟩ := stC X432 hx hZ e432 Ar440 (j := (0 : Int32)) hi441 (g := (mkF m 14 #[.val (.ref a), .val (.int pp), .val (.int rr), .val (.ref b429)] [(.int u0), (.int 0), (.ref b429)])) rfl rfl (hb hby d21_14)
  rw [show nar .char u0 = u0 from own_nC lu0.R] at W442
  have N442 := Fr.snoc X442 N432 g_b429
  have V442 := Arv.set Ar440 q440 S440 M440 H440 Gf440 (own_fC lu0.R) W442 0 rfl (Nat.le_of_ble_eq_true rfl)
  have V442' : Arv Z h442 b429 k429 .char (8 : Int32) [(.int u0), (.int 0), (.int 0), (.int 0), (.int 0), (.int 0), (.int 0), (.int 0)] (.int 0) := by exact V442
  have G443 : Go p e below A0 (T442.setTop (mkF m 15 #[.val (.ref a), .val (.int pp), .val (.int rr), .val (.ref b429)] [])) := fun tq kq => G439 tq (st442 _ kq)
  have G444 : Go p e below A0 (T442.setTop (mkF m 21 #[.val (.ref a), .val (.int pp), .val (.int rr), .val (.ref b429)] [(.int rr), (.int pp), (.int 1), (.ref a), (.int 1), (.ref b429)])) := fun tq kq => G443 tq (by
    refine XS.aloadN X442.here hx rfl (hb hby d21_15) rfl rfl ?_
    refine XS.iconst X442.here hx rfl (hb hby d21_16) ?_
    refine XS.aloadN X442.here hx rfl (hb hby d21_17) rfl rfl ?_
    refine XS.iconst X442.here hx rfl (hb hby d21_18) ?_
    refine XS.iloadN X442.here hx rfl (hb hby d21_19) rfl ?_
    refine XS.iloadN X442.here hx rfl (hb hby d21_20) rfl ?_
    exact kq)
  obtain ⟨u1, eu1⟩ : ∃ q, q = own_gv cf n_ (1 : Int32) pp rr := ⟨_, rfl⟩
  have lu1 := own_gvL eu1 hB hlr
  have f446 := (f433.wr W442)
  have f447 := (f434.other W442 (Or.inl (Nat.ne_of_lt lt_a_b429)))
  have f448 := (f435.other W442 (Or.inl (Nat.ne_of_lt lt_a_b429)))
  have f449 := (f436.other W442 (Nat.ne_of_lt lt_b_b429))
  have f450 := (Nat.le_trans f437 (Keep.of_wr W442).1)
  have f451 := (f438.wr W442 g_b429)
  obtain ⟨_, _, ⟨T445, L445, k445, n445⟩, -, X445, ⟨Lc445, hQ445, l445, y445, z445⟩, st445⟩ := Jvm.LawKit.callS X442 hx (y := (⟨"com/example/role_delegation/roledelegation/RevocationKindNamedPinLaw", "g", "(Ljava/lang/String;IIC)C"⟩ : MethodName)) hown (mvT hZ (wd hw 14 rfl)) (mvT hZ (wd hw 15 rfl)) (mvT hZ (wd hw 11 rfl)) (mvT hZ (wd hw 16 rfl)) (by decide) (backOf (W := 2) (rmG l Z a0 hw [] a b kb cf (1 : Int32) n_ pp rr u1 cs fo h442 n0 f450 f446 f447 f448 f449 hB hlr (by decide) eu1 hCS hcs hSF hfo f451) hZ (wd hw 16 rfl) (wd hw 11 rfl) (by decide) (by decide)) (g := (mkF m 21 #[.val (.ref a), .val (.int pp), .val (.int rr), .val (.ref b429)] [(.int rr), (.int pp), (.int 1), (.ref a), (.int 1), (.ref b429)])) rfl (by rw [hml]; rfl) (argsL := [(.ref a), (.int 1), (.int pp), (.int rr)]) (rest := [(.int 1), (.ref b429)]) (lenOf pd_11 rfl) rfl (by show 2 * 0 + _ ≤ _; exact Nat.le_of_eq rfl) (hb hby d21_21) (fun _ _ => ⟨rfl, e442, (by decide : 1 + 0 ≤ _), (by decide : 8 + 0 ≤ _)⟩)
  dsimp only [Pt.U, Pt.locs, Pt.cells, Pt.slots] at X445 l445 y445 z445 st445 hQ445
  obtain rfl : k445 = 1 := y445
  obtain rfl : n445 = 8 := z445
  obtain ⟨rfl, N445q, e445⟩ := hQ445
  have N445 : Fr n0 L445 := by rw [l445]; exact Fr.app N442 N445q
  have G452 : Go p e below A0 (T445.setTop (mkF m 24 #[.val (.ref a), .val (.int pp), .val (.int rr), .val (.ref b429)] [(.int u1), (.int 1), (.ref b429)])) := fun tq kq => G444 tq (st445 _ kq)
  obtain ⟨cl453, Ar453, q453, S453, M453, H453, Gf453⟩ := id V442'
  have hi454 : ¬ ((1 : Int32) < 0 ∨ cl453.slots.size ≤ ((1 : Int32)).toNatClampNeg) := (inb_of S453 ⟨by decide, by decide⟩)
  obtain ⟨T455, h455, X455, e455, W455, st455⟩ := stC X445 hx hZ e445 Ar453 (j := (1 : Int32)) hi454 (g := (mkF m 24 #[.val (.ref a), .val (.int pp), .val (.int rr), .val (.ref b429)] [(.int u1), (.int 1), (.ref b429)])) rfl rfl (hb hby d21_24)
  rw [show nar .char u1 = u1 from own_nC lu1.R] at W455
  have N455 := Fr.snoc X455 N445 g_b429
  have V455 := Arv.set Ar453 q453 S453 M453 H453 Gf453 (own_fC lu1.R) W455 1 rfl (Nat.le_of_ble_eq_true rfl)
  have V455' : Arv Z h455 b429 k429 .char (8 : Int32) [(.int u0), (.int u1), (.int 0), (.int 0), (.int 0), (.int 0), (.int 0), (.int 0)] (.int 0) := by exact V455
  have G456 : Go p e below A0 (T455.setTop (mkF m 25 #[.val (.ref a), .val (.int pp), .val (.int rr), .val (.ref b429)] [])) := fun tq kq => G452 tq (st455 _ kq)
  have G457 : Go p e below A0 (T455.setTop (mkF m 31 #[.val (.ref a), .val (.int pp), .val (.int rr), .val (.ref b429)] [(.int rr), (.int pp), (.int 2), (.ref a), (.int 2), (.ref b429)])) := fun tq kq => G456 tq (by
    refine XS.aloadN X455.here hx rfl (hb hby d21_25) rfl rfl ?_
    refine XS.iconst X455.here hx rfl (hb hby d21_26) ?_
    refine XS.aloadN X455.here hx rfl (hb hby d21_27) rfl rfl ?_
    refine XS.iconst X455.here hx rfl (hb hby d21_28) ?_
    refine XS.iloadN X455.here hx rfl (hb hby d21_29) rfl ?_
    refine XS.iloadN X455.here hx rfl (hb hby d21_30) rfl ?_
    exact kq)
  obtain ⟨u2, eu2⟩ : ∃ q, q = own_gv cf n_ (2 : Int32) pp rr := ⟨_, rfl⟩
  have lu2 := own_gvL eu2 hB hlr
  have f459 := (f446.wr W455)
  have f460 := (f447.other W455 (Or.inl (Nat.ne_of_lt lt_a_b429)))
  have f461 := (f448.other W455 (Or.inl (Nat.ne_of_lt lt_a_b429)))
  have f462 := (f449.other W455 (Nat.ne_of_lt lt_b_b429))
  have f463 := (Nat.le_trans f450 (Keep.of_wr W455).1)
  have f464 := (f451.wr W455 g_b429)
  obtain ⟨_, _, ⟨T458, L458, k458, n458⟩, -, X458, ⟨Lc458, hQ458, l458, y458, z458⟩, st458⟩ := Jvm.LawKit.callS X455 hx (y := (⟨"com/example/role_delegation/roledelegation/RevocationKindNamedPinLaw", "g", "(Ljava/lang/String;IIC)C"⟩ : MethodName)) hown (mvT hZ (wd hw 14 rfl)) (mvT hZ (wd hw 15 rfl)) (mvT hZ (wd hw 11 rfl)) (mvT hZ (wd hw 16 rfl)) (by decide) (backOf (W := 2) (rmG l Z a0 hw [] a b kb cf (2 : Int32) n_ pp rr u2 cs fo h455 n0 f463 f459 f460 f461 f462 hB hlr (by decide) eu2 hCS hcs hSF hfo f464) hZ (wd hw 16 rfl) (wd hw 11 rfl) (by decide) (by decide)) (g := (mkF m 31 #[.val (.ref a), .val (.int pp), .val (.int rr), .val (.ref b429)] [(.int rr), (.int pp), (.int 2), (.ref a), (.int 2), (.ref b429)])) rfl (by rw [hml]; rfl) (argsL := [(.ref a), (.int 2), (.int pp), (.int rr)]) (rest := [(.int 2), (.ref b429)]) (lenOf pd_11 rfl) rfl (by show 2 * 0 + _ ≤ _; exact Nat.le_of_eq rfl) (hb hby d21_31) (fun _ _ => ⟨rfl, e455, (by decide : 1 + 0 ≤ _), (by decide : 8 + 0 ≤ _)⟩)
  dsimp only [Pt.U, Pt.locs, Pt.cells, Pt.slots] at X458 l458 y458 z458 st458 hQ458
  obtain rfl : k458 = 1 := y458
  obtain rfl : n458 = 8 := z458
  obtain ⟨rfl, N458q, e458⟩ := hQ458
  have N458 : Fr n0 L458 := by rw [l458]; exact Fr.app N455 N458q
  have G465 : Go p e below A0 (T458.setTop (mkF m 34 #[.val (.ref a), .val (.int pp), .val (.int rr), .val (.ref b429)] [(.int u2), (.int 2), (.ref b429)])) := fun tq kq => G457 tq (st458 _ kq)
  obtain ⟨cl466, Ar466, q466, S466, M466, H466, Gf466⟩ := id V455'
  have hi467 : ¬ ((2 : Int32) < 0 ∨ cl466.slots.size ≤ ((2 : Int32)).toNatClampNeg) := (inb_of S466 ⟨by decide, by decide⟩)
  obtain ⟨T468, h468, X468, e468, W468, st468⟩ := stC X458 hx hZ e458 Ar466 (j := (2 : Int32)) hi467 (g := (mkF m 34 #[.val (.ref a), .val (.int pp), .val (.int rr), .val (.ref b429)] [(.int u2), (.int 2), (.ref b429)])) rfl rfl (hb hby d21_34)
  rw [show nar .char u2 = u2 from own_nC lu2.R] at W468
  have N468 := Fr.snoc X468 N458 g_b429
  have V468 := Arv.set Ar466 q466 S466 M466 H466 Gf466 (own_fC lu2.R) W468 2 rfl (Nat.le_of_ble_eq_true rfl)
  have V468' : Arv Z h468 b429 k429 .char (8 : Int32) [(.int u0), (.int u1), (.int u2), (.int 0), (.int 0), (.int 0), (.int 0), (.int 0)] (.int 0) := by exact V468
  have G469 : Go p e below A0 (T468.setTop (mkF m 35 #[.val (.ref a), .val (.int pp), .val (.int rr), .val (.ref b429)] [])) := fun tq kq => G465 tq (st468 _ kq)
  have G470 : Go p e below A0 (T468.setTop (mkF m 41 #[.val (.ref a), .val (.int pp), .val (.int rr), .val (.ref b429)] [(.int rr), (.int pp), (.int 3), (.ref a), (.int 3), (.ref b429)])) := fun tq kq => G469 tq (by
    refine XS.aloadN X468.here hx rfl (hb hby d21_35) rfl rfl ?_
    refine XS.iconst X468.here hx rfl (hb hby d21_36) ?_
    refine XS.aloadN X468.here hx rfl (hb hby d21_37) rfl rfl ?_
    refine XS.iconst X468.here hx rfl (hb hby d21_38) ?_
    refine XS.iloadN X468.here hx rfl (hb hby d21_39) rfl ?_
    refine XS.iloadN X468.here hx rfl (hb hby d21_40) rfl ?_
    exact kq)
  obtain ⟨u3, eu3⟩ : ∃ q, q = own_gv cf n_ (3 : Int32) pp rr := ⟨_, rfl⟩
  have lu3 := own_gvL eu3 hB hlr
  have f472 := (f459.wr W468)
  have f473 := (f460.other W468 (Or.inl (Nat.ne_of_lt lt_a_b429)))
  have f474 := (f461.other W468 (Or.inl (Nat.ne_of_lt lt_a_b429)))
  have f475 := (f462.other W468 (Nat.ne_of_lt lt_b_b429))
  have f476 := (Nat.le_trans f463 (Keep.of_wr W468).1)
  have f477 := (f464.wr W468 g_b429)
  obtain ⟨_, _, ⟨T471, L471, k471, n471⟩, -, X471, ⟨Lc471, hQ471, l471, y471, z471⟩, st471⟩ := Jvm.LawKit.callS X468 hx (y := (⟨"com/example/role_delegation/roledelegation/RevocationKindNamedPinLaw", "g", "(Ljava/lang/String;IIC)C"⟩ : MethodName)) hown (mvT hZ (wd hw 14 rfl)) (mvT hZ (wd hw 15 rfl)) (mvT hZ (wd hw 11 rfl)) (mvT hZ (wd hw 16 rfl)) (by decide) (backOf (W := 2) (rmG l Z a0 hw [] a b kb cf (3 : Int32) n_ pp rr u3 cs fo h468 n0 f476 f472 f473 f474 f475 hB hlr (by decide) eu3 hCS hcs hSF hfo f477) hZ (wd hw 16 rfl) (wd hw 11 rfl) (by decide) (by decide)) (g := (mkF m 41 #[.val (.ref a), .val (.int pp), .val (.int rr), .val (.ref b429)] [(.int rr), (.int pp), (.int 3), (.ref a), (.int 3), (.ref b429)])) rfl (by rw [hml]; rfl) (argsL := [(.ref a), (.int 3), (.int pp), (.int rr)]) (rest := [(.int 3), (.ref b429)]) (lenOf pd_11 rfl) rfl (by show 2 * 0 + _ ≤ _; exact Nat.le_of_eq rfl) (hb hby d21_41) (fun _ _ => ⟨rfl, e468, (by decide : 1 + 0 ≤ _), (by decide : 8 + 0 ≤ _)⟩)
  dsimp only [Pt.U, Pt.locs, Pt.cells, Pt.slots] at X471 l471 y471 z471 st471 hQ471
  obtain rfl : k471 = 1 := y471
  obtain rfl : n471 = 8 := z471
  obtain ⟨rfl, N471q, e471⟩ := hQ471
  have N471 : Fr n0 L471 := by rw [l471]; exact Fr.app N468 N471q
  have G478 : Go p e below A0 (T471.setTop (mkF m 44 #[.val (.ref a), .val (.int pp), .val (.int rr), .val (.ref b429)] [(.int u3), (.int 3), (.ref b429)])) := fun tq kq => G470 tq (st471 _ kq)
  obtain ⟨cl479, Ar479, q479, S479, M479, H479, Gf479⟩ := id V468'
  have hi480 : ¬ ((3 : Int32) < 0 ∨ cl479.slots.size ≤ ((3 : Int32)).toNatClampNeg) := (inb_of S479 ⟨by decide, by decide⟩)
  obtain ⟨T481, h481, X481, e481, W481, st481⟩ := stC X471 hx hZ e471 Ar479 (j := (3 : Int32)) hi480 (g := (mkF m 44 #[.val (.ref a), .val (.int pp), .val (.int rr), .val (.ref b429)] [(.int u3), (.int 3), (.ref b429)])) rfl rfl (hb hby d21_44)
  rw [show nar .char u3 = u3 from own_nC lu3.R] at W481
  have N481 := Fr.snoc X481 N471 g_b429
  have V481 := Arv.set Ar479 q479 S479 M479 H479 Gf479 (own_fC lu3.R) W481 3 rfl (Nat.le_of_ble_eq_true rfl)
  have V481' : Arv Z h481 b429 k429 .char (8 : Int32) [(.int u0), (.int u1), (.int u2), (.int u3), (.int 0), (.int 0), (.int 0), (.int 0)] (.int 0) := by exact V481
  have G482 : Go p e below A0 (T481.setTop (mkF m 45 #[.val (.ref a), .val (.int pp), .val (.int rr), .val (.ref b429)] [])) := fun tq kq => G478 tq (st481 _ kq)
  have G483 : Go p e below A0 (T481.setTop (mkF m 51 #[.val (.ref a), .val (.int pp), .val (.int rr), .val (.ref b429)] [(.int rr), (.int pp), (.int 4), (.ref a), (.int 4), (.ref b429)])) := fun tq kq => G482 tq (by
    refine XS.aloadN X481.here hx rfl (hb hby d21_45) rfl rfl ?_
    refine XS.iconst X481.here hx rfl (hb hby d21_46) ?_
    refine XS.aloadN X481.here hx rfl (hb hby d21_47) rfl rfl ?_
    refine XS.iconst X481.here hx rfl (hb hby d21_48) ?_
    refine XS.iloadN X481.here hx rfl (hb hby d21_49) rfl ?_
    refine XS.iloadN X481.here hx rfl (hb hby d21_50) rfl ?_
    exact kq)
  obtain ⟨u4, eu4⟩ : ∃ q, q = own_gv cf n_ (4 : Int32) pp rr := ⟨_, rfl⟩
  have lu4 := own_gvL eu4 hB hlr
  have f485 := (f472.wr W481)
  have f486 := (f473.other W481 (Or.inl (Nat.ne_of_lt lt_a_b429)))
  have f487 := (f474.other W481 (Or.inl (Nat.ne_of_lt lt_a_b429)))
  have f488 := (f475.other W481 (Nat.ne_of_lt lt_b_b429))
  have f489 := (Nat.le_trans f476 (Keep.of_wr W481).1)
  have f490 := (f477.wr W481 g_b429)
  obtain ⟨_, _, ⟨T484, L484, k484, n484⟩, -, X484, ⟨Lc484, hQ484, l484, y484, z484⟩, st484⟩ := Jvm.LawKit.callS X481 hx (y := (⟨"com/example/role_delegation/roledelegation/RevocationKindNamedPinLaw", "g", "(Ljava/lang/String;IIC)C"⟩ : MethodName)) hown (mvT hZ (wd hw 14 rfl)) (mvT hZ (wd hw 15 rfl)) (mvT hZ (wd hw 11 rfl)) (mvT hZ (wd hw 16 rfl)) (by decide) (backOf (W := 2) (rmG l Z a0 hw [] a b kb cf (4 : Int32) n_ pp rr u4 cs fo h481 n0 f489 f485 f486 f487 f488 hB hlr (by decide) eu4 hCS hcs hSF hfo f490) hZ (wd hw 16 rfl) (wd hw 11 rfl) (by decide) (by decide)) (g := (mkF m 51 #[.val (.ref a), .val (.int pp), .val (.int rr), .val (.ref b429)] [(.int rr), (.int pp), (.int 4), (.ref a), (.int 4), (.ref b429)])) rfl (by rw [hml]; rfl) (argsL := [(.ref a), (.int 4), (.int pp), (.int rr)]) (rest := [(.int 4), (.ref b429)]) (lenOf pd_11 rfl) rfl (by show 2 * 0 + _ ≤ _; exact Nat.le_of_eq rfl) (hb hby d21_51) (fun _ _ => ⟨rfl, e481, (by decide : 1 + 0 ≤ _), (by decide : 8 + 0 ≤ _)⟩)
  dsimp only [Pt.U, Pt.locs, Pt.cells, Pt.slots] at X484 l484 y484 z484 st484 hQ484
  obtain rfl : k484 = 1 := y484
  obtain rfl : n484 = 8 := z484
  obtain ⟨rfl, N484q, e484⟩ := hQ484
  have N484 : Fr n0 L484 := by rw [l484]; exact Fr.app N481 N484q
  have G491 : Go p e below A0 (T484.setTop (mkF m 54 #[.val (.ref a), .val (.int pp), .val (.int rr), .val (.ref b429)] [(.int u4), (.int 4), (.ref b429)])) := fun tq kq => G483 tq (st484 _ kq)
  obtain ⟨cl492, Ar492, q492, S492, M492, H492, Gf492⟩ := id V481'
  have hi493 : ¬ ((4 : Int32) < 0 ∨ cl492.slots.size ≤ ((4 : Int32)).toNatClampNeg) := (inb_of S492 ⟨by decide, by decide⟩)
  obtain ⟨T494, h494, X494, e494, W494, st494⟩ := stC X484 hx hZ e484 Ar492 (j := (4 : Int32)) hi493 (g := (mkF m 54 #[.val (.ref a), .val (.int pp), .val (.int rr), .val (.ref b429)] [(.int u4), (.int 4), (.ref b429)])) rfl rfl (hb hby d21_54)
  rw [show nar .char u4 = u4 from own_nC lu4.R] at W494
  have N494 := Fr.snoc X494 N484 g_b429
  have V494 := Arv.set Ar492 q492 S492 M492 H492 Gf492 (own_fC lu4.R) W494 4 rfl (Nat.le_of_ble_eq_true rfl)
  have V494' : Arv Z h494 b429 k429 .char (8 : Int32) [(.int u0), (.int u1), (.int u2), (.int u3), (.int u4), (.int 0), (.int 0), (.int 0)] (.int 0) := by simp only [List.set_cons_succ, List.set_cons_zero] at V494; exact V494
  have G495 : Go p e below A0 (T494.setTop (mkF m 55 #[.val (.ref a), .val (.int pp), .val (.int rr), .val (.ref b429)] [])) := fun tq kq => G491 tq (st494 _ kq)
  have G496 : Go p e below A0 (T494.setTop (mkF m 61 #[.val (.ref a), .val (.int pp), .val (.int rr), .val (.ref b429)] [(.int rr), (.int pp), (.int 5), (.ref a), (.int 5), (.ref b429)])) := fun tq kq => G495 tq (by
    refine XS.aloadN X494.here hx rfl (hb hby d21_55) rfl rfl ?_
    refine XS.iconst X494.here hx rfl (hb hby d21_56) ?_
    refine XS.aloadN X494.here hx rfl (hb hby d21_57) rfl rfl ?_
    refine XS.iconst X494.here hx rfl (hb hby d21_58) ?_
    refine XS.iloadN X494.here hx rfl (hb hby d21_59) rfl ?_
    refine XS.iloadN X494.here hx rfl (hb hby d21_60) rfl ?_
    exact kq)
  obtain ⟨u5, eu5⟩ : ∃ q, q = own_gv cf n_ (5 : Int32) pp rr := ⟨_, rfl⟩
  have lu5 := own_gvL eu5 hB hlr
  have f498 := (f485.wr W494)
  have f499 := (f486.other W494 (Or.inl (Nat.ne_of_lt lt_a_b429)))
  have f500 := (f487.other W494 (Or.inl (Nat.ne_of_lt lt_a_b429)))
  have f501 := (f488.other W494 (Nat.ne_of_lt lt_b_b429))
  have f502 := (Nat.le_trans f489 (Keep.of_wr W494).1)
  have f503 := (f490.wr W494 g_b429)
  obtain ⟨_, _, ⟨T497, L497, k497, n497⟩, -, X497, ⟨Lc497, hQ497, l497, y497, z497⟩, st497⟩ := Jvm.LawKit.callS X494 hx (y := (⟨"com/example/role_delegation/roledelegation/RevocationKindNamedPinLaw", "g", "(Ljava/lang/String;IIC)C"⟩ : MethodName)) hown (mvT hZ (wd hw 14 rfl)) (mvT hZ (wd hw 15 rfl)) (mvT hZ (wd hw 11 rfl)) (mvT hZ (wd hw 16 rfl)) (by decide) (backOf (W := 2) (rmG l Z a0 hw [] a b kb cf (5 : Int32) n_ pp rr u5 cs fo h494 n0 f502 f498 f499 f500 f501 hB hlr (by decide) eu5 hCS hcs hSF hfo f503) hZ (wd hw 16 rfl) (wd hw 11 rfl) (by decide) (by decide)) (g := (mkF m 61 #[.val (.ref a), .val (.int pp), .val (.int rr), .val (.ref b429)] [(.int rr), (.int pp), (.int 5), (.ref a), (.int 5), (.ref b429)])) rfl (by rw [hml]; rfl) (argsL := [(.ref a), (.int 5), (.int pp), (.int rr)]) (rest := [(.int 5), (.ref b429)]) (lenOf pd_11 rfl) rfl (by show 2 * 0 + _ ≤ _; exact Nat.le_of_eq rfl) (hb hby d21_61) (fun _ _ => ⟨rfl, e494, (by decide : 1 + 0 ≤ _), (by decide : 8 + 0 ≤ _)⟩)
  dsimp only [Pt.U, Pt.locs, Pt.cells, Pt.slots] at X497 l497 y497 z497 st497 hQ497
  obtain rfl : k497 = 1 := y497
  obtain rfl : n497 = 8 := z497
  obtain ⟨rfl, N497q, e497⟩ := hQ497
  have N497 : Fr n0 L497 := by rw [l497]; exact Fr.app N494 N497q
  have G504 : Go p e below A0 (T497.setTop (mkF m 64 #[.val (.ref a), .val (.int pp), .val (.int rr), .val (.ref b429)] [(.int u5), (.int 5), (.ref b429)])) := fun tq kq => G496 tq (st497 _ kq)
  obtain ⟨cl505, Ar505, q505, S505, M505, H505, Gf505⟩ := id V494'
  have hi506 : ¬ ((5 : Int32) < 0 ∨ cl505.slots.size ≤ ((5 : Int32)).toNatClampNeg) := (inb_of S505 ⟨by decide, by decide⟩)
  obtain ⟨T507, h507, X507, e507, W507, st507⟩ := stC X497 hx hZ e497 Ar505 (j := (5 : Int32)) hi506 (g := (mkF m 64 #[.val (.ref a), .val (.int pp), .val (.int rr), .val (.ref b429)] [(.int u5), (.int 5), (.ref b429)])) rfl rfl (hb hby d21_64)
  rw [show nar .char u5 = u5 from own_nC lu5.R] at W507
  have N507 := Fr.snoc X507 N497 g_b429
  have V507 := Arv.set Ar505 q505 S505 M505 H505 Gf505 (own_fC lu5.R) W507 5 rfl (Nat.le_of_ble_eq_true rfl)
  have V507' : Arv Z h507 b429 k429 .char (8 : Int32) [(.int u0), (.int u1), (.int u2), (.int u3), (.int u4), (.int u5), (.int 0), (.int 0)] (.int 0) := by simp only [List.set_cons_succ, List.set_cons_zero] at V507; exact V507
  have G508 : Go p e below A0 (T507.setTop (mkF m 65 #[.val (.ref a), .val (.int pp), .val (.int rr), .val (.ref b429)] [])) := fun tq kq => G504 tq (st507 _ kq)
  have G509 : Go p e below A0 (T507.setTop (mkF m 73 #[.val (.ref a), .val (.int pp), .val (.int rr), .val (.ref b429)] [(.int rr), (.int pp), (.int 6), (.ref a), (.int 6), (.ref b429)])) := fun tq kq => G508 tq (by
    refine XS.aloadN X507.here hx rfl (hb hby d21_65) rfl rfl ?_
    refine XS.bipush X507.here hx rfl (hb hby d21_66) ?_
    refine XS.aloadN X507.here hx rfl (hb hby d21_68) rfl rfl ?_
    refine XS.bipush X507.here hx rfl (hb hby d21_69) ?_
    refine XS.iloadN X507.here hx rfl (hb hby d21_71) rfl ?_
    refine XS.iloadN X507.here hx rfl (hb hby d21_72) rfl ?_
    exact kq)
  obtain ⟨u6, eu6⟩ : ∃ q, q = own_gv cf n_ (6 : Int32) pp rr := ⟨_, rfl⟩
  have lu6 := own_gvL eu6 hB hlr
  have f511 := (f498.wr W507)
  have f512 := (f499.other W507 (Or.inl (Nat.ne_of_lt lt_a_b429)))
  have f513 := (f500.other W507 (Or.inl (Nat.ne_of_lt lt_a_b429)))
  have f514 := (f501.other W507 (Nat.ne_of_lt lt_b_b429))
  have f515 := (Nat.le_trans f502 (Keep.of_wr W507).1)
  have f516 := (f503.wr W507 g_b429)
  obtain ⟨_, _, ⟨T510, L510, k510, n510⟩, -, X510, ⟨Lc510, hQ510, l510, y510, z510⟩, st510⟩ := Jvm.LawKit.callS X507 hx (y := (⟨"com/example/role_delegation/roledelegation/RevocationKindNamedPinLaw", "g", "(Ljava/lang/String;IIC)C"⟩ : MethodName)) hown (mvT hZ (wd hw 14 rfl)) (mvT hZ (wd hw 15 rfl)) (mvT hZ (wd hw 11 rfl)) (mvT hZ (wd hw 16 rfl)) (by decide) (backOf (W := 2) (rmG l Z a0 hw [] a b kb cf (6 : Int32) n_ pp rr u6 cs fo h507 n0 f515 f511 f512 f513 f514 hB hlr (by decide) eu6 hCS hcs hSF hfo f516) hZ (wd hw 16 rfl) (wd hw 11 rfl) (by decide) (by decide)) (g := (mkF m 73 #[.val (.ref a), .val (.int pp), .val (.int rr), .val (.ref b429)] [(.int rr), (.int pp), (.int 6), (.ref a), (.int 6), (.ref b429)])) rfl (by rw [hml]; rfl) (argsL := [(.ref a), (.int 6), (.int pp), (.int rr)]) (rest := [(.int 6), (.ref b429)]) (lenOf pd_11 rfl) rfl (by show 2 * 0 + _ ≤ _; exact Nat.le_of_eq rfl) (hb hby d21_73) (fun _ _ => ⟨rfl, e507, (by decide : 1 + 0 ≤ _), (by decide : 8 + 0 ≤ _)⟩)
  dsimp only [Pt.U, Pt.locs, Pt.cells, Pt.slots] at X510 l510 y510 z510 st510 hQ510
  obtain rfl : k510 = 1 := y510
  obtain rfl : n510 = 8 := z510
  obtain ⟨rfl, N510q, e510⟩ := hQ510
  have N510 : Fr n0 L510 := by rw [l510]; exact Fr.app N507 N510q
  have G517 : Go p e below A0 (T510.setTop (mkF m 76 #[.val (.ref a), .val (.int pp), .val (.int rr), .val (.ref b429)] [(.int u6), (.int 6), (.ref b429)])) := fun tq kq => G509 tq (st510 _ kq)
  obtain ⟨cl518, Ar518, q518, S518, M518, H518, Gf518⟩ := id V507'
  have hi519 : ¬ ((6 : Int32) < 0 ∨ cl518.slots.size ≤ ((6 : Int32)).toNatClampNeg) := (inb_of S518 ⟨by decide, by decide⟩)
  obtain ⟨T520, h520, X520, e520, W520, st520⟩ := stC X510 hx hZ e510 Ar518 (j := (6 : Int32)) hi519 (g := (mkF m 76 #[.val (.ref a), .val (.int pp), .val (.int rr), .val (.ref b429)] [(.int u6), (.int 6), (.ref b429)])) rfl rfl (hb hby d21_76)
  rw [show nar .char u6 = u6 from own_nC lu6.R] at W520
  have N520 := Fr.snoc X520 N510 g_b429
  have V520 := Arv.set Ar518 q518 S518 M518 H518 Gf518 (own_fC lu6.R) W520 6 rfl (Nat.le_of_ble_eq_true rfl)
  have V520' : Arv Z h520 b429 k429 .char (8 : Int32) [(.int u0), (.int u1), (.int u2), (.int u3), (.int u4), (.int u5), (.int u6), (.int 0)] (.int 0) := by simp only [List.set_cons_succ, List.set_cons_zero] at V520; exact V520
  have G521 : Go p e below A0 (T520.setTop (mkF m 77 #[.val (.ref a), .val (.int pp), .val (.int rr), .val (.ref b429)] [])) := fun tq kq => G517 tq (st520 _ kq)
  have G522 : Go p e below A0 (T520.setTop (mkF m 85 #[.val (.ref a), .val (.int pp), .val (.int rr), .val (.ref b429)] [(.int rr), (.int pp), (.int 7), (.ref a), (.int 7), (.ref b429)])) := fun tq kq => G521 tq (by
    refine XS.aloadN X520.here hx rfl (hb hby d21_77) rfl rfl ?_
    refine XS.bipush X520.here hx rfl (hb hby d21_78) ?_
    refine XS.aloadN X520.here hx rfl (hb hby d21_80) rfl rfl ?_
    refine XS.bipush X520.here hx rfl (hb hby d21_81) ?_
    refine XS.iloadN X520.here hx rfl (hb hby d21_83) rfl ?_
    refine XS.iloadN X520.here hx rfl (hb hby d21_84) rfl ?_
    exact kq)
  obtain ⟨u7, eu7⟩ : ∃ q, q = own_gv cf n_ (7 : Int32) pp rr := ⟨_, rfl⟩
  have lu7 := own_gvL eu7 hB hlr
  have f524 := (f511.wr W520)
  have f525 := (f512.other W520 (Or.inl (Nat.ne_of_lt lt_a_b429)))
  have f526 := (f513.other W520 (Or.inl (Nat.ne_of_lt lt_a_b429)))
  have f527 := (f514.other W520 (Nat.ne_of_lt lt_b_b429))
  have f528 := (Nat.le_trans f515 (Keep.of_wr W520).1)
  have f529 := (f516.wr W520 g_b429)
  obtain ⟨_, _, ⟨T523, L523, k523, n523⟩, -, X523, ⟨Lc523, hQ523, l523, y523, z523⟩, st523⟩ := Jvm.LawKit.callS X520 hx (y := (⟨"com/example/role_delegation/roledelegation/RevocationKindNamedPinLaw", "g", "(Ljava/lang/String;IIC)C"⟩ : MethodName)) hown (mvT hZ (wd hw 14 rfl)) (mvT hZ (wd hw 15 rfl)) (mvT hZ (wd hw 11 rfl)) (mvT hZ (wd hw 16 rfl)) (by decide) (backOf (W := 2) (rmG l Z a0 hw [] a b kb cf (7 : Int32) n_ pp rr u7 cs fo h520 n0 f528 f524 f525 f526 f527 hB hlr (by decide) eu7 hCS hcs hSF hfo f529) hZ (wd hw 16 rfl) (wd hw 11 rfl) (by decide) (by decide)) (g := (mkF m 85 #[.val (.ref a), .val (.int pp), .val (.int rr), .val (.ref b429)] [(.int rr), (.int pp), (.int 7), (.ref a), (.int 7), (.ref b429)])) rfl (by rw [hml]; rfl) (argsL := [(.ref a), (.int 7), (.int pp), (.int rr)]) (rest := [(.int 7), (.ref b429)]) (lenOf pd_11 rfl) rfl (by show 2 * 0 + _ ≤ _; exact Nat.le_of_eq rfl) (hb hby d21_85) (fun _ _ => ⟨rfl, e520, (by decide : 1 + 0 ≤ _), (by decide : 8 + 0 ≤ _)⟩)
  dsimp only [Pt.U, Pt.locs, Pt.cells, Pt.slots] at X523 l523 y523 z523 st523 hQ523
  obtain rfl : k523 = 1 := y523
  obtain rfl : n523 = 8 := z523
  obtain ⟨rfl, N523q, e523⟩ := hQ523
  have N523 : Fr n0 L523 := by rw [l523]; exact Fr.app N520 N523q
  have G530 : Go p e below A0 (T523.setTop (mkF m 88 #[.val (.ref a), .val (.int pp), .val (.int rr), .val (.ref b429)] [(.int u7), (.int 7), (.ref b429)])) := fun tq kq => G522 tq (st523 _ kq)
  obtain ⟨cl531, Ar531, q531, S531, M531, H531, Gf531⟩ := id V520'
  have hi532 : ¬ ((7 : Int32) < 0 ∨ cl531.slots.size ≤ ((7 : Int32)).toNatClampNeg) := (inb_of S531 ⟨by decide, by decide⟩)
  obtain ⟨T533, h533, X533, e533, W533, st533⟩ := stC X523 hx hZ e523 Ar531 (j := (7 : Int32)) hi532 (g := (mkF m 88 #[.val (.ref a), .val (.int pp), .val (.int rr), .val (.ref b429)] [(.int u7), (.int 7), (.ref b429)])) rfl rfl (hb hby d21_88)
  rw [show nar .char u7 = u7 from own_nC lu7.R] at W533
  have N533 := Fr.snoc X533 N523 g_b429
  have V533 := Arv.set Ar531 q531 S531 M531 H531 Gf531 (own_fC lu7.R) W533 7 rfl (Nat.le_of_ble_eq_true rfl)
  have V533' : Arv Z h533 b429 k429 .char (8 : Int32) [(.int u0), (.int u1), (.int u2), (.int u3), (.int u4), (.int u5), (.int u6), (.int u7)] (.int 0) := by simp only [List.set_cons_succ, List.set_cons_zero] at V533; exact V533
  have G534 : Go p e below A0 (T533.setTop (mkF m 89 #[.val (.ref a), .val (.int pp), .val (.int rr), .val (.ref b429)] [])) := fun tq kq => G530 tq (st533 _ kq)
  have f536 := (Nat.le_trans f528 (Keep.of_wr W533).1)
  obtain ⟨T535, h535, X535, e535, E535, A535, D535, -, st535⟩ := newO X533 hx hZ hown (wd hw 52 rfl) (wd hw 3 rfl) (wd hw 2 rfl) e533 (g := (mkF m 89 #[.val (.ref a), .val (.int pp), .val (.int rr), .val (.ref b429)] [])) rfl (hb hby d21_89) (by decide) (by decide)
  obtain ⟨b535, g535⟩ : ∃ z, z = h533.size := ⟨_, rfl⟩
  rw [← g535] at A535 D535 st535
  have f537 := (Nat.le_trans (Nat.le_trans (Nat.le_trans (Nat.le_trans (Nat.le_trans (Nat.le_trans (Nat.le_trans (Nat.le_trans (Nat.le_trans (Nat.le_refl h0.size) E429.1) (Keep.of_wr W442).1) (Keep.of_wr W455).1) (Keep.of_wr W468).1) (Keep.of_wr W481).1) (Keep.of_wr W494).1) (Keep.of_wr W507).1) (Keep.of_wr W520).1) (Keep.of_wr W533).1)
  have sz_b535 : h0.size ≤ b535 := Nat.le_trans f537 (Nat.le_of_eq g535.symm)
  have g_b535 : n0 ≤ b535 := Nat.le_trans f536 (Nat.le_of_eq g535.symm)
  have lt_a_b535 : a < b535 := Nat.lt_of_lt_of_le (f524.wr W533).lt (Nat.le_of_eq g535.symm)
  have lt_b_b535 : b < b535 := Nat.lt_of_lt_of_le (f527.other W533 (Nat.ne_of_lt lt_b_b429)).lt (Nat.le_of_eq g535.symm)
  have lt_b429_b535 : b429 < b535 := Nat.lt_of_lt_of_le V533'.lt (Nat.le_of_eq g535.symm)
  have F535_value : Fld Z h535 b535 "java/lang/String" "value" "[B" .null := D535 (Or.inr (wd hw 5 rfl)) (ty := (.array .byte)) (by decide)
  have F535_coder : Fld Z h535 b535 "java/lang/String" "coder" "B" (.int 0) := D535 (Or.inr (wd hw 6 rfl)) (ty := .byte) (by decide)
  have G538 : Go p e below A0 (T535.setTop (mkF m 92 #[.val (.ref a), .val (.int pp), .val (.int rr), .val (.ref b429)] [(.ref b535)])) := fun tq kq => G534 tq (st535 _ kq)
  have G539 : Go p e below A0 (T535.setTop (mkF m 94 #[.val (.ref a), .val (.int pp), .val (.int rr), .val (.ref b429)] [(.ref b429), (.ref b535), (.ref b535)])) := fun tq kq => G538 tq (by
    refine XS.dup X535.here hx rfl (hb hby d21_92) rfl rfl ?_
    refine XS.aloadN X535.here hx rfl (hb hby d21_93) rfl rfl ?_
    exact kq)
  have f541 := (Nat.le_trans f536 E535.1)
  have f542 := (V533'.ext E535)
  have f543 := ((f529.wr W533 g_b429).ext E535)
  obtain ⟨_, _, ⟨T540, L540, k540, n540⟩, -, X540, ⟨Lc540, hQ540, l540, y540, z540⟩, st540⟩ := X535.specialBack hx (y := (⟨"java/lang/String", "<init>", "([C)V"⟩ : MethodName)) rfl hown (mvT hZ (wd hw 53 rfl)) (mvT hZ (wd hw 54 rfl)) (mvT hZ (wd hw 55 rfl)) (by decide) (backOf (W := 1) (rmH l Z a0 hw [] b535 b429 k429 (own_gw cf n_ pp rr) (8 : Int32) cs fo h535 n0 f541 A535 g_b535 F535_value F535_coder ((Af.of f542).fn (own_cT8 u0 u1 u2 u3 u4 u5 u6 u7 (own_gw cf n_ pp rr) eu0 eu1 eu2 eu3 eu4 eu5 eu6 eu7)) (Nat.ne_of_lt lt_b429_b535) (fun j => own_gvL rfl hB hlr) (by decide) hCS hcs hSF hfo f543) hZ (wd hw 55 rfl) (wd hw 2 rfl) (by decide) (by decide)) (g := (mkF m 94 #[.val (.ref a), .val (.int pp), .val (.int rr), .val (.ref b429)] [(.ref b429), (.ref b535), (.ref b535)])) rfl (by rw [hml]; rfl) (Steps.refl _) (a := b535) (argsL := [(.ref b429)]) (rest := [(.ref b535)]) (lenOf pd_12 rfl) rfl (by show 2 * 0 + _ ≤ _; exact Nat.le_of_eq rfl) (hb hby d21_94) (fun _ _ => ⟨rfl, e535, (by decide : 2 + 1 ≤ _), (by decide : 12 + 12 ≤ _)⟩)
  dsimp only [Pt.U, Pt.locs, Pt.cells, Pt.slots] at X540 l540 y540 z540 st540 hQ540
  obtain rfl : k540 = 3 := y540
  obtain rfl : n540 = 24 := z540
  obtain ⟨rfl, N540q, K540, bb540, kk540, Fv540, Fc540, Ab540⟩ := hQ540
  have N540 : Fr n0 L540 := by rw [l540]; exact Fr.app N533 N540q
  have G544 : Go p e below A0 (T540.setTop (mkF m 97 #[.val (.ref a), .val (.int pp), .val (.int rr), .val (.ref b429)] [(.ref b535)])) := fun tq kq => G539 tq (st540.trans kq)
  have f545 := (A535.keep K540)
  obtain ⟨fs, hr, hrun, hended, hW, hsame⟩ := X540.leave (v := some (.ref b535)) (fun h => by rw [Bd.returns] at h; cases h)
  refine ⟨_, _, (by rw [← hA0]; exact G544 _ (retOut X540 hx (t := (.object "java/lang/String")) Bd.returns rfl (Or.inr (Or.inr (Or.inr (Or.inr ⟨rfl, rfl, rfl⟩)))) (hb hby d21_97) hr)), hrun, hended, _, _, rfl, ?_, ⟨_, rfl⟩, hW, hsame.mono (by decide) (by decide)⟩
  show Qw Z (8 : Int32) (own_gw cf n_ pp rr) h0 n0 _ T540.heap _
  exact ⟨b535, bb540, kk540, rfl, N540, ((((((((((((Keep.refl h0 []).ext E429).wr W442 (Or.inr sz_b429)).wr W455 (Or.inr sz_b429)).wr W468 (Or.inr sz_b429)).wr W481 (Or.inr sz_b429)).wr W494 (Or.inr sz_b429)).wr W507 (Or.inr sz_b429)).wr W520 (Or.inr sz_b429)).wr W533 (Or.inr sz_b429)).ext E535).trans K540 (allS (P := fun x => x ∈ [] ∨ h0.size ≤ x) (Or.inr sz_b535) all0)), g_b535, f545, Fv540, Fc540, Ab540⟩
set_option maxRecDepth 65536 in
set_option maxHeartbeats 40000000 in
theorem rmW10 (l : Launch) (Z : State) (a0 : Array Value) (hw : ∀ d ∈ tables_1, d.before a0 Z = true) (ws : List Jvm.Cond) (a b : Addr) (kb : ClassId) (cf : Nat → Int32) (n_ pp rr : Int32) (cs : Int32) (fo : Value) (h0 : Heap) (n0 : Nat) (Z0 : n0 ≤ h0.size) (E : Exa Z h0 a "java/lang/String") (Fv : Fld Z h0 a "java/lang/String" "value" "[B" (.ref b)) (Fc : Fld Z h0 a "java/lang/String" "coder" "B" (.int 0)) (Ab : Af Z h0 b kb .byte n_ (fun j => .int (own_by (cf j)))) (hB : ∀ j, own_L (cf j)) (hlr : own_L rr) (hCS : Sta Z Z.heap "java/lang/String" "COMPACT_STRINGS" "Z" (.int cs)) (hcs : ¬ cs = (0 : Int32)) (hSF : Sta Z Z.heap "jdk/internal/util/Preconditions" "SIOOBE_FORMATTER" "Ljava/util/function/BiFunction;" fo) (hfo : fo.isRef = true) (hold : Old Z n0 h0) :
    MetFree l (⟨"com/example/role_delegation/roledelegation/RevocationKindNamedPinLaw", "w10", "(Ljava/lang/String;IC)Ljava/lang/String;"⟩ : MethodName) (head1 (Jvm.Cond.code (⟨"com/example/role_delegation/roledelegation/RevocationKindNamedPinLaw", "w10", "(Ljava/lang/String;IC)Ljava/lang/String;"⟩ : MethodName) method_6_code 4 (some (.object "java/lang/String")) :: ws) (Rm 5 3 26 70)) (fun aa UU => aa = #[(.ref a), (.int pp), (.int rr)] ∧ Z.Warmed39 UU.vm ∧ UU.heap = h0) (fun _ _ _ _ _ => True) (fun _ UU oo U' => ∃ v L, oo = .returned v ∧ Qw Z (10 : Int32) (own_gw cf n_ pp rr) h0 n0 v U'.heap L ∧ FrameEnd UU oo U' L (Rm 5 3 26 70).cells (Rm 5 3 26 70).slots) := by
  refine MetFree.of_bodySF (plainFor_of_name pn_3) hisR ?_
  intro p e s m args below meth c s₁ Bd hml0 hP hK
  obtain ⟨rfl, hZ, hh⟩ := hP
  have hx := Bd.exec
  have hby := Bd.bytes
  have hml : c.maxLocals = 4 := hml0
  have hown : s.vm.findClass "com/example/role_delegation/roledelegation/RevocationKindNamedPinLaw" = some m.cls := findClass_of_methodNamed Bd.named
  have hnm := (name_of_methodNamed Bd.named Bd.method).1
  have X0 : Stand p l e (Rm 5 3 26 70) s m #[(.ref a), (.int pp), (.int rr)] below meth c s₁ [] 0 0 := Stand.of_body Bd
  have e0 : s₁.heap = h0 := by rw [← hh, Bd.state]; rfl
  have N0 := Fr.nil n0
  obtain ⟨A0, hA0⟩ : ∃ A, A = s₁.setTop (entryFrame m #[(.ref a), (.int pp), (.int rr)] 4) := ⟨_, rfl⟩
  have G0 : Go p e below A0 (s₁.setTop (mkF m 0 #[.val (.ref a), .val (.int pp), .val (.int rr), .unset] [])) := fun tq kq => by rw [hA0]; exact castTop (ef_rmW10 m a pp rr) kq
  have G546 : Go p e below A0 (s₁.setTop (mkF m 2 #[.val (.ref a), .val (.int pp), .val (.int rr), .unset] [(.int 10)])) := fun tq kq => G0 tq (by
    refine XS.bipush X0.here hx rfl (hb hby d22_0) ?_
    exact kq)
  obtain ⟨T547, h547, k547, X547, e547, E547, A547, st547⟩ := newP X0 hx hZ (wd hw 13 rfl) e0 (g := (mkF m 2 #[.val (.ref a), .val (.int pp), .val (.int rr), .unset] [(.int 10)])) rfl (hb hby d22_2) rfl (by decide) (cap := 10) (by decide) (by decide) (by decide) (by decide)
  obtain ⟨b547, g547⟩ : ∃ z, z = h0.size := ⟨_, rfl⟩
  rw [← g547] at A547 st547
  have sz_b547 : h0.size ≤ b547 := Nat.le_trans (Nat.le_refl h0.size) (Nat.le_of_eq g547.symm)
  have g_b547 : n0 ≤ b547 := Nat.le_trans Z0 (Nat.le_of_eq g547.symm)
  have lt_a_b547 : a < b547 := Nat.lt_of_lt_of_le E.lt (Nat.le_of_eq g547.symm)
  have lt_b_b547 : b < b547 := Nat.lt_of_lt_of_le Ab.lt (Nat.le_of_eq g547.symm)
  have V547 : Arv Z h547 b547 k547 .char (10 : Int32) [(.int 0), (.int 0), (.int 0), (.int 0), (.int 0), (.int 0), (.int 0), (.int 0), (.int 0), (.int 0)] (.int 0) := (Arv.new A547 (by decide)).pad (pad_rep [] (.int 0) 10)
  have G548 : Go p e below A0 (T547.setTop (mkF m 4 #[.val (.ref a), .val (.int pp), .val (.int rr), .unset] [(.ref b547)])) := fun tq kq => G546 tq (st547 _ kq)
  have G549 : Go p e below A0 (T547.setTop (mkF m 11 #[.val (.ref a), .val (.int pp), .val (.int rr), .val (.ref b547)] [(.int rr), (.int pp), (.int 0), (.ref a), (.int 0), (.ref b547)])) := fun tq kq => G548 tq (by
    refine XS.astoreN X547.here hx rfl (hb hby d22_4) rfl rfl (l' := #[.val (.ref a), .val (.int pp), .val (.int rr), .val (.ref b547)]) rfl ?_
    refine XS.aloadN X547.here hx rfl (hb hby d22_5) rfl rfl ?_
    refine XS.iconst X547.here hx rfl (hb hby d22_6) ?_
    refine XS.aloadN X547.here hx rfl (hb hby d22_7) rfl rfl ?_
    refine XS.iconst X547.here hx rfl (hb hby d22_8) ?_
    refine XS.iloadN X547.here hx rfl (hb hby d22_9) rfl ?_
    refine XS.iloadN X547.here hx rfl (hb hby d22_10) rfl ?_
    exact kq)
  obtain ⟨u0, eu0⟩ : ∃ q, q = own_gv cf n_ (0 : Int32) pp rr := ⟨_, rfl⟩
  have lu0 := own_gvL eu0 hB hlr
  have f551 := (E.ext E547)
  have f552 := (Fv.ext E547)
  have f553 := (Fc.ext E547)
  have f554 := (Ab.ext E547)
  have f555 := (Nat.le_trans Z0 E547.1)
  have f556 := (hold.ext E547)
  obtain ⟨_, _, ⟨T550, L550, k550, n550⟩, -, X550, ⟨Lc550, hQ550, l550, y550, z550⟩, st550⟩ := Jvm.LawKit.callS X547 hx (y := (⟨"com/example/role_delegation/roledelegation/RevocationKindNamedPinLaw", "g", "(Ljava/lang/String;IIC)C"⟩ : MethodName)) hown (mvT hZ (wd hw 14 rfl)) (mvT hZ (wd hw 15 rfl)) (mvT hZ (wd hw 11 rfl)) (mvT hZ (wd hw 16 rfl)) (by decide) (backOf (W := 2) (rmG l Z a0 hw [] a b kb cf (0 : Int32) n_ pp rr u0 cs fo h547 n0 f555 f551 f552 f553 f554 hB hlr (by decide) eu0 hCS hcs hSF hfo f556) hZ (wd hw 16 rfl) (wd hw 11 rfl) (by decide) (by decide)) (g := (mkF m 11 #[.val (.ref a), .val (.int pp), .val (.int rr), .val (.ref b547)] [(.int rr), (.int pp), (.int 0), (.ref a), (.int 0), (.ref b547)])) rfl (by rw [hml]; rfl) (argsL := [(.ref a), (.int 0), (.int pp), (.int rr)]) (rest := [(.int 0), (.ref b547)]) (lenOf pd_11 rfl) rfl (by show 2 * 0 + _ ≤ _; exact Nat.le_of_eq rfl) (hb hby d22_11) (fun _ _ => ⟨rfl, e547, (by decide : 1 + 0 ≤ _), (by decide : 10 + 0 ≤ _)⟩)
  dsimp only [Pt.U, Pt.locs, Pt.cells, Pt.slots] at X550 l550 y550 z550 st550 hQ550
  obtain rfl : k550 = 1 := y550
  obtain rfl : n550 = 10 := z550
  obtain ⟨rfl, N550q, e550⟩ := hQ550
  have N550 : Fr n0 L550 := by rw [l550]; exact Fr.app N0 N550q
  have G557 : Go p e below A0 (T550.setTop (mkF m 14 #[.val (.ref a), .val (.int pp), .val (.int rr), .val (.ref b547)] [(.int u0), (.int 0), (.ref b547)])) := fun tq kq => G549 tq (st550 _ kq)
  obtain ⟨cl558, Ar558, q558, S558, M558, H558, Gf558⟩ := id V547
  have hi559 : ¬ ((0 : Int32) < 0 ∨ cl558.slots.size ≤ ((0 : Int32)).toNatClampNeg) := (inb_of S558 ⟨by decide, by decide⟩)
  obtain ⟨T560, h560, X560, e560, W560, st560⟩ := stC X550 hx hZ e550 Ar558 (j := (0 : Int32)) hi559 (g := (mkF m 14 #[.val (.ref a), .val (.int pp), .val (.int rr), .val (.ref b547)] [(.int u0), (.int 0), (.ref b547)])) rfl rfl (hb hby d22_14)
  rw [show nar .char u0 = u0 from own_nC lu0.R] at W560
  have N560 := Fr.snoc X560 N550 g_b547
  have V560 := Arv.set Ar558 q558 S558 M558 H558 Gf558 (own_fC lu0.R) W560 0 rfl (Nat.le_of_ble_eq_true rfl)
  have V560' : Arv Z h560 b547 k547 .char (10 : Int32) [(.int u0), (.int 0), (.int 0), (.int 0), (.int 0), (.int 0), (.int 0), (.int 0), (.int 0), (.int 0)] (.int 0) := by exact V560
  have G561 : Go p e below A0 (T560.setTop (mkF m 15 #[.val (.ref a), .val (.int pp), .val (.int rr), .val (.ref b547)] [])) := fun tq kq => G557 tq (st560 _ kq)
  have G562 : Go p e below A0 (T560.setTop (mkF m 21 #[.val (.ref a), .val (.int pp), .val (.int rr), .val (.ref b547)] [(.int rr), (.int pp), (.int 1), (.ref a), (.int 1), (.ref b547)])) := fun tq kq => G561 tq (by
    refine XS.aloadN X560.here hx rfl (hb hby d22_15) rfl rfl ?_
    refine XS.iconst X560.here hx rfl (hb hby d22_16) ?_
    refine XS.aloadN X560.here hx rfl (hb hby d22_17) rfl rfl ?_
    refine XS.iconst X560.here hx rfl (hb hby d22_18) ?_
    refine XS.iloadN X560.here hx rfl (hb hby d22_19) rfl ?_
    refine XS.iloadN X560.here hx rfl (hb hby d22_20) rfl ?_
    exact kq)
  obtain ⟨u1, eu1⟩ : ∃ q, q = own_gv cf n_ (1 : Int32) pp rr := ⟨_, rfl⟩
  have lu1 := own_gvL eu1 hB hlr
  have f564 := (f551.wr W560)
  have f565 := (f552.other W560 (Or.inl (Nat.ne_of_lt lt_a_b547)))
  have f566 := (f553.other W560 (Or.inl (Nat.ne_of_lt lt_a_b547)))
  have f567 := (f554.other W560 (Nat.ne_of_lt lt_b_b547))
  have f568 := (Nat.le_trans f555 (Keep.of_wr W560).1)
  have f569 := (f556.wr W560 g_b547)
  obtain ⟨_, _, ⟨T563, L563, k563, n563⟩, -, X563, ⟨Lc563, hQ563, l563, y563, z563⟩, st563⟩ := Jvm.LawKit.callS X560 hx (y := (⟨"com/example/role_delegation/roledelegation/RevocationKindNamedPinLaw", "g", "(Ljava/lang/String;IIC)C"⟩ : MethodName)) hown (mvT hZ (wd hw 14 rfl)) (mvT hZ (wd hw 15 rfl)) (mvT hZ (wd hw 11 rfl)) (mvT hZ (wd hw 16 rfl)) (by decide) (backOf (W := 2) (rmG l Z a0 hw [] a b kb cf (1 : Int32) n_ pp rr u1 cs fo h560 n0 f568 f564 f565 f566 f567 hB hlr (by decide) eu1 hCS hcs hSF hfo f569) hZ (wd hw 16 rfl) (wd hw 11 rfl) (by decide) (by decide)) (g := (mkF m 21 #[.val (.ref a), .val (.int pp), .val (.int rr), .val (.ref b547)] [(.int rr), (.int pp), (.int 1), (.ref a), (.int 1), (.ref b547)])) rfl (by rw [hml]; rfl) (argsL := [(.ref a), (.int 1), (.int pp), (.int rr)]) (rest := [(.int 1), (.ref b547)]) (lenOf pd_11 rfl) rfl (by show 2 * 0 + _ ≤ _; exact Nat.le_of_eq rfl) (hb hby d22_21) (fun _ _ => ⟨rfl, e560, (by decide : 1 + 0 ≤ _), (by decide : 10 + 0 ≤ _)⟩)
  dsimp only [Pt.U, Pt.locs, Pt.cells, Pt.slots] at X563 l563 y563 z563 st563 hQ563
  obtain rfl : k563 = 1 := y563
  obtain rfl : n563 = 10 := z563
  obtain ⟨rfl, N563q, e563⟩ := hQ563
  have N563 : Fr n0 L563 := by rw [l563]; exact Fr.app N560 N563q
  have G570 : Go p e below A0 (T563.setTop (mkF m 24 #[.val (.ref a), .val (.int pp), .val (.int rr), .val (.ref b547)] [(.int u1), (.int 1), (.ref b547)])) := fun tq kq => G562 tq (st563 _ kq)
  obtain ⟨cl571, Ar571, q571, S571, M571, H571, Gf571⟩ := id V560'
  have hi572 : ¬ ((1 : Int32) < 0 ∨ cl571.slots.size ≤ ((1 : Int32)).toNatClampNeg) := (inb_of S571 ⟨by decide, by decide⟩)
  obtain ⟨T573, h573, X573, e573, W573, st573⟩ := stC X563 hx hZ e563 Ar571 (j := (1 : Int32)) hi572 (g := (mkF m 24 #[.val (.ref a), .val (.int pp), .val (.int rr), .val (.ref b547)] [(.int u1), (.int 1), (.ref b547)])) rfl rfl (hb hby d22_24)
  rw [show nar .char u1 = u1 from own_nC lu1.R] at W573
  have N573 := Fr.snoc X573 N563 g_b547
  have V573 := Arv.set Ar571 q571 S571 M571 H571 Gf571 (own_fC lu1.R) W573 1 rfl (Nat.le_of_ble_eq_true rfl)
  have V573' : Arv Z h573 b547 k547 .char (10 : Int32) [(.int u0), (.int u1), (.int 0), (.int 0), (.int 0), (.int 0), (.int 0), (.int 0), (.int 0), (.int 0)] (.int 0) := by exact V573
  have G574 : Go p e below A0 (T573.setTop (mkF m 25 #[.val (.ref a), .val (.int pp), .val (.int rr), .val (.ref b547)] [])) := fun tq kq => G570 tq (st573 _ kq)
  have G575 : Go p e below A0 (T573.setTop (mkF m 31 #[.val (.ref a), .val (.int pp), .val (.int rr), .val (.ref b547)] [(.int rr), (.int pp), (.int 2), (.ref a), (.int 2), (.ref b547)])) := fun tq kq => G574 tq (by
    refine XS.aloadN X573.here hx rfl (hb hby d22_25) rfl rfl ?_
    refine XS.iconst X573.here hx rfl (hb hby d22_26) ?_
    refine XS.aloadN X573.here hx rfl (hb hby d22_27) rfl rfl ?_
    refine XS.iconst X573.here hx rfl (hb hby d22_28) ?_
    refine XS.iloadN X573.here hx rfl (hb hby d22_29) rfl ?_
    refine XS.iloadN X573.here hx rfl (hb hby d22_30) rfl ?_
    exact kq)
  obtain ⟨u2, eu2⟩ : ∃ q, q = own_gv cf n_ (2 : Int32) pp rr := ⟨_, rfl⟩
  have lu2 := own_gvL eu2 hB hlr
  have f577 := (f564.wr W573)
  have f578 := (f565.other W573 (Or.inl (Nat.ne_of_lt lt_a_b547)))
  have f579 := (f566.other W573 (Or.inl (Nat.ne_of_lt lt_a_b547)))
  have f580 := (f567.other W573 (Nat.ne_of_lt lt_b_b547))
  have f581 := (Nat.le_trans f568 (Keep.of_wr W573).1)
  have f582 := (f569.wr W573 g_b547)
  obtain ⟨_, _, ⟨T576, L576, k576, n576⟩, -, X576, ⟨Lc576, hQ576, l576, y576, z576⟩, st576⟩ := Jvm.LawKit.callS X573 hx (y := (⟨"com/example/role_delegation/roledelegation/RevocationKindNamedPinLaw", "g", "(Ljava/lang/String;IIC)C"⟩ : MethodName)) hown (mvT hZ (wd hw 14 rfl)) (mvT hZ (wd hw 15 rfl)) (mvT hZ (wd hw 11 rfl)) (mvT hZ (wd hw 16 rfl)) (by decide) (backOf (W := 2) (rmG l Z a0 hw [] a b kb cf (2 : Int32) n_ pp rr u2 cs fo h573 n0 f581 f577 f578 f579 f580 hB hlr (by decide) eu2 hCS hcs hSF hfo f582) hZ (wd hw 16 rfl) (wd hw 11 rfl) (by decide) (by decide)) (g := (mkF m 31 #[.val (.ref a), .val (.int pp), .val (.int rr), .val (.ref b547)] [(.int rr), (.int pp), (.int 2), (.ref a), (.int 2), (.ref b547)])) rfl (by rw [hml]; rfl) (argsL := [(.ref a), (.int 2), (.int pp), (.int rr)]) (rest := [(.int 2), (.ref b547)]) (lenOf pd_11 rfl) rfl (by show 2 * 0 + _ ≤ _; exact Nat.le_of_eq rfl) (hb hby d22_31) (fun _ _ => ⟨rfl, e573, (by decide : 1 + 0 ≤ _), (by decide : 10 + 0 ≤ _)⟩)
  dsimp only [Pt.U, Pt.locs, Pt.cells, Pt.slots] at X576 l576 y576 z576 st576 hQ576
  obtain rfl : k576 = 1 := y576
  obtain rfl : n576 = 10 := z576
  obtain ⟨rfl, N576q, e576⟩ := hQ576
  have N576 : Fr n0 L576 := by rw [l576]; exact Fr.app N573 N576q
  have G583 : Go p e below A0 (T576.setTop (mkF m 34 #[.val (.ref a), .val (.int pp), .val (.int rr), .val (.ref b547)] [(.int u2), (.int 2), (.ref b547)])) := fun tq kq => G575 tq (st576 _ kq)
  obtain ⟨cl584, Ar584, q584, S584, M584, H584, Gf584⟩ := id V573'
  have hi585 : ¬ ((2 : Int32) < 0 ∨ cl584.slots.size ≤ ((2 : Int32)).toNatClampNeg) := (inb_of S584 ⟨by decide, by decide⟩)
  obtain ⟨T586, h586, X586, e586, W586, st586⟩ := stC X576 hx hZ e576 Ar584 (j := (2 : Int32)) hi585 (g := (mkF m 34 #[.val (.ref a), .val (.int pp), .val (.int rr), .val (.ref b547)] [(.int u2), (.int 2), (.ref b547)])) rfl rfl (hb hby d22_34)
  rw [show nar .char u2 = u2 from own_nC lu2.R] at W586
  have N586 := Fr.snoc X586 N576 g_b547
  have V586 := Arv.set Ar584 q584 S584 M584 H584 Gf584 (own_fC lu2.R) W586 2 rfl (Nat.le_of_ble_eq_true rfl)
  have V586' : Arv Z h586 b547 k547 .char (10 : Int32) [(.int u0), (.int u1), (.int u2), (.int 0), (.int 0), (.int 0), (.int 0), (.int 0), (.int 0), (.int 0)] (.int 0) := by exact V586
  have G587 : Go p e below A0 (T586.setTop (mkF m 35 #[.val (.ref a), .val (.int pp), .val (.int rr), .val (.ref b547)] [])) := fun tq kq => G583 tq (st586 _ kq)
  have G588 : Go p e below A0 (T586.setTop (mkF m 41 #[.val (.ref a), .val (.int pp), .val (.int rr), .val (.ref b547)] [(.int rr), (.int pp), (.int 3), (.ref a), (.int 3), (.ref b547)])) := fun tq kq => G587 tq (by
    refine XS.aloadN X586.here hx rfl (hb hby d22_35) rfl rfl ?_
    refine XS.iconst X586.here hx rfl (hb hby d22_36) ?_
    refine XS.aloadN X586.here hx rfl (hb hby d22_37) rfl rfl ?_
    refine XS.iconst X586.here hx rfl (hb hby d22_38) ?_
    refine XS.iloadN X586.here hx rfl (hb hby d22_39) rfl ?_
    refine XS.iloadN X586.here hx rfl (hb hby d22_40) rfl ?_
    exact kq)
  obtain ⟨u3, eu3⟩ : ∃ q, q = own_gv cf n_ (3 : Int32) pp rr := ⟨_, rfl⟩
  have lu3 := own_gvL eu3 hB hlr
  have f590 := (f577.wr W586)
  have f591 := (f578.other W586 (Or.inl (Nat.ne_of_lt lt_a_b547)))
  have f592 := (f579.other W586 (Or.inl (Nat.ne_of_lt lt_a_b547)))
  have f593 := (f580.other W586 (Nat.ne_of_lt lt_b_b547))
  have f594 := (Nat.le_trans f581 (Keep.of_wr W586).1)
  have f595 := (f582.wr W586 g_b547)
  obtain ⟨_, _, ⟨T589, L589, k589, n589⟩, -, X589, ⟨Lc589, hQ589, l589, y589, z589⟩, st589⟩ := Jvm.LawKit.callS X586 hx (y := (⟨"com/example/role_delegation/roledelegation/RevocationKindNamedPinLaw", "g", "(Ljava/lang/String;IIC)C"⟩ : MethodName)) hown (mvT hZ (wd hw 14 rfl)) (mvT hZ (wd hw 15 rfl)) (mvT hZ (wd hw 11 rfl)) (mvT hZ (wd hw 16 rfl)) (by decide) (backOf (W := 2) (rmG l Z a0 hw [] a b kb cf (3 : Int32) n_ pp rr u3 cs fo h586 n0 f594 f590 f591 f592 f593 hB hlr (by decide) eu3 hCS hcs hSF hfo f595) hZ (wd hw 16 rfl) (wd hw 11 rfl) (by decide) (by decide)) (g := (mkF m 41 #[.val (.ref a), .val (.int pp), .val (.int rr), .val (.ref b547)] [(.int rr), (.int pp), (.int 3), (.ref a), (.int 3), (.ref b547)])) rfl (by rw [hml]; rfl) (argsL := [(.ref a), (.int 3), (.int pp), (.int rr)]) (rest := [(.int 3), (.ref b547)]) (lenOf pd_11 rfl) rfl (by show 2 * 0 + _ ≤ _; exact Nat.le_of_eq rfl) (hb hby d22_41) (fun _ _ => ⟨rfl, e586, (by decide : 1 + 0 ≤ _), (by decide : 10 + 0 ≤ _)⟩)
  dsimp only [Pt.U, Pt.locs, Pt.cells, Pt.slots] at X589 l589 y589 z589 st589 hQ589
  obtain rfl : k589 = 1 := y589
  obtain rfl : n589 = 10 := z589
  obtain ⟨rfl, N589q, e589⟩ := hQ589
  have N589 : Fr n0 L589 := by rw [l589]; exact Fr.app N586 N589q
  have G596 : Go p e below A0 (T589.setTop (mkF m 44 #[.val (.ref a), .val (.int pp), .val (.int rr), .val (.ref b547)] [(.int u3), (.int 3), (.ref b547)])) := fun tq kq => G588 tq (st589 _ kq)
  obtain ⟨cl597, Ar597, q597, S597, M597, H597, Gf597⟩ := id V586'
  have hi598 : ¬ ((3 : Int32) < 0 ∨ cl597.slots.size ≤ ((3 : Int32)).toNatClampNeg) := (inb_of S597 ⟨by decide, by decide⟩)
  obtain ⟨T599, h599, X599, e599, W599, st599⟩ := stC X589 hx hZ e589 Ar597 (j := (3 : Int32)) hi598 (g := (mkF m 44 #[.val (.ref a), .val (.int pp), .val (.int rr), .val (.ref b547)] [(.int u3), (.int 3), (.ref b547)])) rfl rfl (hb hby d22_44)
  rw [show nar .char u3 = u3 from own_nC lu3.R] at W599
  have N599 := Fr.snoc X599 N589 g_b547
  have V599 := Arv.set Ar597 q597 S597 M597 H597 Gf597 (own_fC lu3.R) W599 3 rfl (Nat.le_of_ble_eq_true rfl)
  have V599' : Arv Z h599 b547 k547 .char (10 : Int32) [(.int u0), (.int u1), (.int u2), (.int u3), (.int 0), (.int 0), (.int 0), (.int 0), (.int 0), (.int 0)] (.int 0) := by exact V599
  have G600 : Go p e below A0 (T599.setTop (mkF m 45 #[.val (.ref a), .val (.int pp), .val (.int rr), .val (.ref b547)] [])) := fun tq kq => G596 tq (st599 _ kq)
  have G601 : Go p e below A0 (T599.setTop (mkF m 51 #[.val (.ref a), .val (.int pp), .val (.int rr), .val (.ref b547)] [(.int rr), (.int pp), (.int 4), (.ref a), (.int 4), (.ref b547)])) := fun tq kq => G600 tq (by
    refine XS.aloadN X599.here hx rfl (hb hby d22_45) rfl rfl ?_
    refine XS.iconst X599.here hx rfl (hb hby d22_46) ?_
    refine XS.aloadN X599.here hx rfl (hb hby d22_47) rfl rfl ?_
    refine XS.iconst X599.here hx rfl (hb hby d22_48) ?_
    refine XS.iloadN X599.here hx rfl (hb hby d22_49) rfl ?_
    refine XS.iloadN X599.here hx rfl (hb hby d22_50) rfl ?_
    exact kq)
  obtain ⟨u4, eu4⟩ : ∃ q, q = own_gv cf n_ (4 : Int32) pp rr := ⟨_, rfl⟩
  have lu4 := own_gvL eu4 hB hlr
  have f603 := (f590.wr W599)
  have f604 := (f591.other W599 (Or.inl (Nat.ne_of_lt lt_a_b547)))
  have f605 := (f592.other W599 (Or.inl (Nat.ne_of_lt lt_a_b547)))
  have f606 := (f593.other W599 (Nat.ne_of_lt lt_b_b547))
  have f607 := (Nat.le_trans f594 (Keep.of_wr W599).1)
  have f608 := (f595.wr W599 g_b547)
  obtain ⟨_, _, ⟨T602, L602, k602, n602⟩, -, X602, ⟨Lc602, hQ602, l602, y602, z602⟩, st602⟩ := Jvm.LawKit.callS X599 hx (y := (⟨"com/example/role_delegation/roledelegation/RevocationKindNamedPinLaw", "g", "(Ljava/lang/String;IIC)C"⟩ : MethodName)) hown (mvT hZ (wd hw 14 rfl)) (mvT hZ (wd hw 15 rfl)) (mvT hZ (wd hw 11 rfl)) (mvT hZ (wd hw 16 rfl)) (by decide) (backOf (W := 2) (rmG l Z a0 hw [] a b kb cf (4 : Int32) n_ pp rr u4 cs fo h599 n0 f607 f603 f604 f605 f606 hB hlr (by decide) eu4 hCS hcs hSF hfo f608) hZ (wd hw 16 rfl) (wd hw 11 rfl) (by decide) (by decide)) (g := (mkF m 51 #[.val (.ref a), .val (.int pp), .val (.int rr), .val (.ref b547)] [(.int rr), (.int pp), (.int 4), (.ref a), (.int 4), (.ref b547)])) rfl (by rw [hml]; rfl) (argsL := [(.ref a), (.int 4), (.int pp), (.int rr)]) (rest := [(.int 4), (.ref b547)]) (lenOf pd_11 rfl) rfl (by show 2 * 0 + _ ≤ _; exact Nat.le_of_eq rfl) (hb hby d22_51) (fun _ _ => ⟨rfl, e599, (by decide : 1 + 0 ≤ _), (by decide : 10 + 0 ≤ _)⟩)
  dsimp only [Pt.U, Pt.locs, Pt.cells, Pt.slots] at X602 l602 y602 z602 st602 hQ602
  obtain rfl : k602 = 1 := y602
  obtain rfl : n602 = 10 := z602
  obtain ⟨rfl, N602q, e602⟩ := hQ602
  have N602 : Fr n0 L602 := by rw [l602]; exact Fr.app N599 N602q
  have G609 : Go p e below A0 (T602.setTop (mkF m 54 #[.val (.ref a), .val (.int pp), .val (.int rr), .val (.ref b547)] [(.int u4), (.int 4), (.ref b547)])) := fun tq kq => G601 tq (st602 _ kq)
  obtain ⟨cl610, Ar610, q610, S610, M610, H610, Gf610⟩ := id V599'
  have hi611 : ¬ ((4 : Int32) < 0 ∨ cl610.slots.size ≤ ((4 : Int32)).toNatClampNeg) := (inb_of S610 ⟨by decide, by decide⟩)
  obtain ⟨T612, h612, X612, e612, W612, st612⟩ := stC X602 hx hZ e602 Ar610 (j := (4 : Int32)) hi611 (g := (mkF m 54 #[.val (.ref a), .val (.int pp), .val (.int rr), .val (.ref b547)] [(.int u4), (.int 4), (.ref b547)])) rfl rfl (hb hby d22_54)
  rw [show nar .char u4 = u4 from own_nC lu4.R] at W612
  have N612 := Fr.snoc X612 N602 g_b547
  have V612 := Arv.set Ar610 q610 S610 M610 H610 Gf610 (own_fC lu4.R) W612 4 rfl (Nat.le_of_ble_eq_true rfl)
  have V612' : Arv Z h612 b547 k547 .char (10 : Int32) [(.int u0), (.int u1), (.int u2), (.int u3), (.int u4), (.int 0), (.int 0), (.int 0), (.int 0), (.int 0)] (.int 0) := by simp only [List.set_cons_succ, List.set_cons_zero] at V612; exact V612
  have G613 : Go p e below A0 (T612.setTop (mkF m 55 #[.val (.ref a), .val (.int pp), .val (.int rr), .val (.ref b547)] [])) := fun tq kq => G609 tq (st612 _ kq)
  have G614 : Go p e below A0 (T612.setTop (mkF m 61 #[.val (.ref a), .val (.int pp), .val (.int rr), .val (.ref b547)] [(.int rr), (.int pp), (.int 5), (.ref a), (.int 5), (.ref b547)])) := fun tq kq => G613 tq (by
    refine XS.aloadN X612.here hx rfl (hb hby d22_55) rfl rfl ?_
    refine XS.iconst X612.here hx rfl (hb hby d22_56) ?_
    refine XS.aloadN X612.here hx rfl (hb hby d22_57) rfl rfl ?_
    refine XS.iconst X612.here hx rfl (hb hby d22_58) ?_
    refine XS.iloadN X612.here hx rfl (hb hby d22_59) rfl ?_
    refine XS.iloadN X612.here hx rfl (hb hby d22_60) rfl ?_
    exact kq)
  obtain ⟨u5, eu5⟩ : ∃ q, q = own_gv cf n_ (5 : Int32) pp rr := ⟨_, rfl⟩
  have lu5 := own_gvL eu5 hB hlr
  have f616 := (f603.wr W612)
  have f617 := (f604.other W612 (Or.inl (Nat.ne_of_lt lt_a_b547)))
  have f618 := (f605.other W612 (Or.inl (Nat.ne_of_lt lt_a_b547)))
  have f619 := (f606.other W612 (Nat.ne_of_lt lt_b_b547))
  have f620 := (Nat.le_trans f607 (Keep.of_wr W612).1)
  have f621 := (f608.wr W612 g_b547)
  obtain ⟨_, _, ⟨T615, L615, k615, n615⟩, -, X615, ⟨Lc615, hQ615, l615, y615, z615⟩, st615⟩ := Jvm.LawKit.callS X612 hx (y := (⟨"com/example/role_delegation/roledelegation/RevocationKindNamedPinLaw", "g", "(Ljava/lang/String;IIC)C"⟩ : MethodName)) hown (mvT hZ (wd hw 14 rfl)) (mvT hZ (wd hw 15 rfl)) (mvT hZ (wd hw 11 rfl)) (mvT hZ (wd hw 16 rfl)) (by decide) (backOf (W := 2) (rmG l Z a0 hw [] a b kb cf (5 : Int32) n_ pp rr u5 cs fo h612 n0 f620 f616 f617 f618 f619 hB hlr (by decide) eu5 hCS hcs hSF hfo f621) hZ (wd hw 16 rfl) (wd hw 11 rfl) (by decide) (by decide)) (g := (mkF m 61 #[.val (.ref a), .val (.int pp), .val (.int rr), .val (.ref b547)] [(.int rr), (.int pp), (.int 5), (.ref a), (.int 5), (.ref b547)])) rfl (by rw [hml]; rfl) (argsL := [(.ref a), (.int 5), (.int pp), (.int rr)]) (rest := [(.int 5), (.ref b547)]) (lenOf pd_11 rfl) rfl (by show 2 * 0 + _ ≤ _; exact Nat.le_of_eq rfl) (hb hby d22_61) (fun _ _ => ⟨rfl, e612, (by decide : 1 + 0 ≤ _), (by decide : 10 + 0 ≤ _)⟩)
  dsimp only [Pt.U, Pt.locs, Pt.cells, Pt.slots] at X615 l615 y615 z615 st615 hQ615
  obtain rfl : k615 = 1 := y615
  obtain rfl : n615 = 10 := z615
  obtain ⟨rfl, N615q, e615⟩ := hQ615
  have N615 : Fr n0 L615 := by rw [l615]; exact Fr.app N612 N615q
  have G622 : Go p e below A0 (T615.setTop (mkF m 64 #[.val (.ref a), .val (.int pp), .val (.int rr), .val (.ref b547)] [(.int u5), (.int 5), (.ref b547)])) := fun tq kq => G614 tq (st615 _ kq)
  obtain ⟨cl623, Ar623, q623, S623, M623, H623, Gf623⟩ := id V612'
  have hi624 : ¬ ((5 : Int32) < 0 ∨ cl623.slots.size ≤ ((5 : Int32)).toNatClampNeg) := (inb_of S623 ⟨by decide, by decide⟩)
  obtain ⟨T625, h625, X625, e625, W625, st625⟩ := stC X615 hx hZ e615 Ar623 (j := (5 : Int32)) hi624 (g := (mkF m 64 #[.val (.ref a), .val (.int pp), .val (.int rr), .val (.ref b547)] [(.int u5), (.int 5), (.ref b547)])) rfl rfl (hb hby d22_64)
  rw [show nar .char u5 = u5 from own_nC lu5.R] at W625
  have N625 := Fr.snoc X625 N615 g_b547
  have V625 := Arv.set Ar623 q623 S623 M623 H623 Gf623 (own_fC lu5.R) W625 5 rfl (Nat.le_of_ble_eq_true rfl)
  have V625' : Arv Z h625 b547 k547 .char (10 : Int32) [(.int u0), (.int u1), (.int u2), (.int u3), (.int u4), (.int u5), (.int 0), (.int 0), (.int 0), (.int 0)] (.int 0) := by simp only [List.set_cons_succ, List.set_cons_zero] at V625; exact V625
  have G626 : Go p e below A0 (T625.setTop (mkF m 65 #[.val (.ref a), .val (.int pp), .val (.int rr), .val (.ref b547)] [])) := fun tq kq => G622 tq (st625 _ kq)
  have G627 : Go p e below A0 (T625.setTop (mkF m 73 #[.val (.ref a), .val (.int pp), .val (.int rr), .val (.ref b547)] [(.int rr), (.int pp), (.int 6), (.ref a), (.int 6), (.ref b547)])) := fun tq kq => G626 tq (by
    refine XS.aloadN X625.here hx rfl (hb hby d22_65) rfl rfl ?_
    refine XS.bipush X625.here hx rfl (hb hby d22_66) ?_
    refine XS.aloadN X625.here hx rfl (hb hby d22_68) rfl rfl ?_
    refine XS.bipush X625.here hx rfl (hb hby d22_69) ?_
    refine XS.iloadN X625.here hx rfl (hb hby d22_71) rfl ?_
    refine XS.iloadN X625.here hx rfl (hb hby d22_72) rfl ?_
    exact kq)
  obtain ⟨u6, eu6⟩ : ∃ q, q = own_gv cf n_ (6 : Int32) pp rr := ⟨_, rfl⟩
  have lu6 := own_gvL eu6 hB hlr
  have f629 := (f616.wr W625)
  have f630 := (f617.other W625 (Or.inl (Nat.ne_of_lt lt_a_b547)))
  have f631 := (f618.other W625 (Or.inl (Nat.ne_of_lt lt_a_b547)))
  have f632 := (f619.other W625 (Nat.ne_of_lt lt_b_b547))
  have f633 := (Nat.le_trans f620 (Keep.of_wr W625).1)
  have f634 := (f621.wr W625 g_b547)
  obtain ⟨_, _, ⟨T628, L628, k628, n628⟩, -, X628, ⟨Lc628, hQ628, l628, y628, z628⟩, st628⟩ := Jvm.LawKit.callS X625 hx (y := (⟨"com/example/role_delegation/roledelegation/RevocationKindNamedPinLaw", "g", "(Ljava/lang/String;IIC)C"⟩ : MethodName)) hown (mvT hZ (wd hw 14 rfl)) (mvT hZ (wd hw 15 rfl)) (mvT hZ (wd hw 11 rfl)) (mvT hZ (wd hw 16 rfl)) (by decide) (backOf (W := 2) (rmG l Z a0 hw [] a b kb cf (6 : Int32) n_ pp rr u6 cs fo h625 n0 f633 f629 f630 f631 f632 hB hlr (by decide) eu6 hCS hcs hSF hfo f634) hZ (wd hw 16 rfl) (wd hw 11 rfl) (by decide) (by decide)) (g := (mkF m 73 #[.val (.ref a), .val (.int pp), .val (.int rr), .val (.ref b547)] [(.int rr), (.int pp), (.int 6), (.ref a), (.int 6), (.ref b547)])) rfl (by rw [hml]; rfl) (argsL := [(.ref a), (.int 6), (.int pp), (.int rr)]) (rest := [(.int 6), (.ref b547)]) (lenOf pd_11 rfl) rfl (by show 2 * 0 + _ ≤ _; exact Nat.le_of_eq rfl) (hb hby d22_73) (fun _ _ => ⟨rfl, e625, (by decide : 1 + 0 ≤ _), (by decide : 10 + 0 ≤ _)⟩)
  dsimp only [Pt.U, Pt.locs, Pt.cells, Pt.slots] at X628 l628 y628 z628 st628 hQ628
  obtain rfl : k628 = 1 := y628
  obtain rfl : n628 = 10 := z628
  obtain ⟨rfl, N628q, e628⟩ := hQ628
  have N628 : Fr n0 L628 := by rw [l628]; exact Fr.app N625 N628q
  have G635 : Go p e below A0 (T628.setTop (mkF m 76 #[.val (.ref a), .val (.int pp), .val (.int rr), .val (.ref b547)] [(.int u6), (.int 6), (.ref b547)])) := fun tq kq => G627 tq (st628 _ kq)
  obtain ⟨cl636, Ar636, q636, S636, M636, H636, Gf636⟩ := id V625'
  have hi637 : ¬ ((6 : Int32) < 0 ∨ cl636.slots.size ≤ ((6 : Int32)).toNatClampNeg) := (inb_of S636 ⟨by decide, by decide⟩)
  obtain ⟨T638, h638, X638, e638, W638, st638⟩ := stC X628 hx hZ e628 Ar636 (j := (6 : Int32)) hi637 (g := (mkF m 76 #[.val (.ref a), .val (.int pp), .val (.int rr), .val (.ref b547)] [(.int u6), (.int 6), (.ref b547)])) rfl rfl (hb hby d22_76)
  rw [show nar .char u6 = u6 from own_nC lu6.R] at W638
  have N638 := Fr.snoc X638 N628 g_b547
  have V638 := Arv.set Ar636 q636 S636 M636 H636 Gf636 (own_fC lu6.R) W638 6 rfl (Nat.le_of_ble_eq_true rfl)
  have V638' : Arv Z h638 b547 k547 .char (10 : Int32) [(.int u0), (.int u1), (.int u2), (.int u3), (.int u4), (.int u5), (.int u6), (.int 0), (.int 0), (.int 0)] (.int 0) := by simp only [List.set_cons_succ, List.set_cons_zero] at V638; exact V638
  have G639 : Go p e below A0 (T638.setTop (mkF m 77 #[.val (.ref a), .val (.int pp), .val (.int rr), .val (.ref b547)] [])) := fun tq kq => G635 tq (st638 _ kq)
  have G640 : Go p e below A0 (T638.setTop (mkF m 85 #[.val (.ref a), .val (.int pp), .val (.int rr), .val (.ref b547)] [(.int rr), (.int pp), (.int 7), (.ref a), (.int 7), (.ref b547)])) := fun tq kq => G639 tq (by
    refine XS.aloadN X638.here hx rfl (hb hby d22_77) rfl rfl ?_
    refine XS.bipush X638.here hx rfl (hb hby d22_78) ?_
    refine XS.aloadN X638.here hx rfl (hb hby d22_80) rfl rfl ?_
    refine XS.bipush X638.here hx rfl (hb hby d22_81) ?_
    refine XS.iloadN X638.here hx rfl (hb hby d22_83) rfl ?_
    refine XS.iloadN X638.here hx rfl (hb hby d22_84) rfl ?_
    exact kq)
  obtain ⟨u7, eu7⟩ : ∃ q, q = own_gv cf n_ (7 : Int32) pp rr := ⟨_, rfl⟩
  have lu7 := own_gvL eu7 hB hlr
  have f642 := (f629.wr W638)
  have f643 := (f630.other W638 (Or.inl (Nat.ne_of_lt lt_a_b547)))
  have f644 := (f631.other W638 (Or.inl (Nat.ne_of_lt lt_a_b547)))
  have f645 := (f632.other W638 (Nat.ne_of_lt lt_b_b547))
  have f646 := (Nat.le_trans f633 (Keep.of_wr W638).1)
  have f647 := (f634.wr W638 g_b547)
  obtain ⟨_, _, ⟨T641, L641, k641, n641⟩, -, X641, ⟨Lc641, hQ641, l641, y641, z641⟩, st641⟩ := Jvm.LawKit.callS X638 hx (y := (⟨"com/example/role_delegation/roledelegation/RevocationKindNamedPinLaw", "g", "(Ljava/lang/String;IIC)C"⟩ : MethodName)) hown (mvT hZ (wd hw 14 rfl)) (mvT hZ (wd hw 15 rfl)) (mvT hZ (wd hw 11 rfl)) (mvT hZ (wd hw 16 rfl)) (by decide) (backOf (W := 2) (rmG l Z a0 hw [] a b kb cf (7 : Int32) n_ pp rr u7 cs fo h638 n0 f646 f642 f643 f644 f645 hB hlr (by decide) eu7 hCS hcs hSF hfo f647) hZ (wd hw 16 rfl) (wd hw 11 rfl) (by decide) (by decide)) (g := (mkF m 85 #[.val (.ref a), .val (.int pp), .val (.int rr), .val (.ref b547)] [(.int rr), (.int pp), (.int 7), (.ref a), (.int 7), (.ref b547)])) rfl (by rw [hml]; rfl) (argsL := [(.ref a), (.int 7), (.int pp), (.int rr)]) (rest := [(.int 7), (.ref b547)]) (lenOf pd_11 rfl) rfl (by show 2 * 0 + _ ≤ _; exact Nat.le_of_eq rfl) (hb hby d22_85) (fun _ _ => ⟨rfl, e638, (by decide : 1 + 0 ≤ _), (by decide : 10 + 0 ≤ _)⟩)
  dsimp only [Pt.U, Pt.locs, Pt.cells, Pt.slots] at X641 l641 y641 z641 st641 hQ641
  obtain rfl : k641 = 1 := y641
  obtain rfl : n641 = 10 := z641
  obtain ⟨rfl, N641q, e641⟩ := hQ641
  have N641 : Fr n0 L641 := by rw [l641]; exact Fr.app N638 N641q
  have G648 : Go p e below A0 (T641.setTop (mkF m 88 #[.val (.ref a), .val (.int pp), .val (.int rr), .val (.ref b547)] [(.int u7), (.int 7), (.ref b547)])) := fun tq kq => G640 tq (st641 _ kq)
  obtain ⟨cl649, Ar649, q649, S649, M649, H649, Gf649⟩ := id V638'
  have hi650 : ¬ ((7 : Int32) < 0 ∨ cl649.slots.size ≤ ((7 : Int32)).toNatClampNeg) := (inb_of S649 ⟨by decide, by decide⟩)
  obtain ⟨T651, h651, X651, e651, W651, st651⟩ := stC X641 hx hZ e641 Ar649 (j := (7 : Int32)) hi650 (g := (mkF m 88 #[.val (.ref a), .val (.int pp), .val (.int rr), .val (.ref b547)] [(.int u7), (.int 7), (.ref b547)])) rfl rfl (hb hby d22_88)
  rw [show nar .char u7 = u7 from own_nC lu7.R] at W651
  have N651 := Fr.snoc X651 N641 g_b547
  have V651 := Arv.set Ar649 q649 S649 M649 H649 Gf649 (own_fC lu7.R) W651 7 rfl (Nat.le_of_ble_eq_true rfl)
  have V651' : Arv Z h651 b547 k547 .char (10 : Int32) [(.int u0), (.int u1), (.int u2), (.int u3), (.int u4), (.int u5), (.int u6), (.int u7), (.int 0), (.int 0)] (.int 0) := by simp only [List.set_cons_succ, List.set_cons_zero] at V651; exact V651
  have G652 : Go p e below A0 (T651.setTop (mkF m 89 #[.val (.ref a), .val (.int pp), .val (.int rr), .val (.ref b547)] [])) := fun tq kq => G648 tq (st651 _ kq)
  have G653 : Go p e below A0 (T651.setTop (mkF m 97 #[.val (.ref a), .val (.int pp), .val (.int rr), .val (.ref b547)] [(.int rr), (.int pp), (.int 8), (.ref a), (.int 8), (.ref b547)])) := fun tq kq => G652 tq (by
    refine XS.aloadN X651.here hx rfl (hb hby d22_89) rfl rfl ?_
    refine XS.bipush X651.here hx rfl (hb hby d22_90) ?_
    refine XS.aloadN X651.here hx rfl (hb hby d22_92) rfl rfl ?_
    refine XS.bipush X651.here hx rfl (hb hby d22_93) ?_
    refine XS.iloadN X651.here hx rfl (hb hby d22_95) rfl ?_
    refine XS.iloadN X651.here hx rfl (hb hby d22_96) rfl ?_
    exact kq)
  obtain ⟨u8, eu8⟩ : ∃ q, q = own_gv cf n_ (8 : Int32) pp rr := ⟨_, rfl⟩
  have lu8 := own_gvL eu8 hB hlr
  have f655 := (f642.wr W651)
  have f656 := (f643.other W651 (Or.inl (Nat.ne_of_lt lt_a_b547)))
  have f657 := (f644.other W651 (Or.inl (Nat.ne_of_lt lt_a_b547)))
  have f658 := (f645.other W651 (Nat.ne_of_lt lt_b_b547))
  have f659 := (Nat.le_trans f646 (Keep.of_wr W651).1)
  have f660 := (f647.wr W651 g_b547)
  obtain ⟨_, _, ⟨T654, L654, k654, n654⟩, -, X654, ⟨Lc654, hQ654, l654, y654, z654⟩, st654⟩ := Jvm.LawKit.callS X651 hx (y := (⟨"com/example/role_delegation/roledelegation/RevocationKindNamedPinLaw", "g", "(Ljava/lang/String;IIC)C"⟩ : MethodName)) hown (mvT hZ (wd hw 14 rfl)) (mvT hZ (wd hw 15 rfl)) (mvT hZ (wd hw 11 rfl)) (mvT hZ (wd hw 16 rfl)) (by decide) (backOf (W := 2) (rmG l Z a0 hw [] a b kb cf (8 : Int32) n_ pp rr u8 cs fo h651 n0 f659 f655 f656 f657 f658 hB hlr (by decide) eu8 hCS hcs hSF hfo f660) hZ (wd hw 16 rfl) (wd hw 11 rfl) (by decide) (by decide)) (g := (mkF m 97 #[.val (.ref a), .val (.int pp), .val (.int rr), .val (.ref b547)] [(.int rr), (.int pp), (.int 8), (.ref a), (.int 8), (.ref b547)])) rfl (by rw [hml]; rfl) (argsL := [(.ref a), (.int 8), (.int pp), (.int rr)]) (rest := [(.int 8), (.ref b547)]) (lenOf pd_11 rfl) rfl (by show 2 * 0 + _ ≤ _; exact Nat.le_of_eq rfl) (hb hby d22_97) (fun _ _ => ⟨rfl, e651, (by decide : 1 + 0 ≤ _), (by decide : 10 + 0 ≤ _)⟩)
  dsimp only [Pt.U, Pt.locs, Pt.cells, Pt.slots] at X654 l654 y654 z654 st654 hQ654
  obtain rfl : k654 = 1 := y654
  obtain rfl : n654 = 10 := z654
  obtain ⟨rfl, N654q, e654⟩ := hQ654
  have N654 : Fr n0 L654 := by rw [l654]; exact Fr.app N651 N654q
  have G661 : Go p e below A0 (T654.setTop (mkF m 100 #[.val (.ref a), .val (.int pp), .val (.int rr), .val (.ref b547)] [(.int u8), (.int 8), (.ref b547)])) := fun tq kq => G653 tq (st654 _ kq)
  obtain ⟨cl662, Ar662, q662, S662, M662, H662, Gf662⟩ := id V651'
  have hi663 : ¬ ((8 : Int32) < 0 ∨ cl662.slots.size ≤ ((8 : Int32)).toNatClampNeg) := (inb_of S662 ⟨by decide, by decide⟩)
  obtain ⟨T664, h664, X664, e664, W664, st664⟩ := stC X654 hx hZ e654 Ar662 (j := (8 : Int32)) hi663 (g := (mkF m 100 #[.val (.ref a), .val (.int pp), .val (.int rr), .val (.ref b547)] [(.int u8), (.int 8), (.ref b547)])) rfl rfl (hb hby d22_100)
  rw [show nar .char u8 = u8 from own_nC lu8.R] at W664
  have N664 := Fr.snoc X664 N654 g_b547
  have V664 := Arv.set Ar662 q662 S662 M662 H662 Gf662 (own_fC lu8.R) W664 8 rfl (Nat.le_of_ble_eq_true rfl)
  have V664' : Arv Z h664 b547 k547 .char (10 : Int32) [(.int u0), (.int u1), (.int u2), (.int u3), (.int u4), (.int u5), (.int u6), (.int u7), (.int u8), (.int 0)] (.int 0) := by simp only [List.set_cons_succ, List.set_cons_zero] at V664; exact V664
  have G665 : Go p e below A0 (T664.setTop (mkF m 101 #[.val (.ref a), .val (.int pp), .val (.int rr), .val (.ref b547)] [])) := fun tq kq => G661 tq (st664 _ kq)
  have G666 : Go p e below A0 (T664.setTop (mkF m 109 #[.val (.ref a), .val (.int pp), .val (.int rr), .val (.ref b547)] [(.int rr), (.int pp), (.int 9), (.ref a), (.int 9), (.ref b547)])) := fun tq kq => G665 tq (by
    refine XS.aloadN X664.here hx rfl (hb hby d22_101) rfl rfl ?_
    refine XS.bipush X664.here hx rfl (hb hby d22_102) ?_
    refine XS.aloadN X664.here hx rfl (hb hby d22_104) rfl rfl ?_
    refine XS.bipush X664.here hx rfl (hb hby d22_105) ?_
    refine XS.iloadN X664.here hx rfl (hb hby d22_107) rfl ?_
    refine XS.iloadN X664.here hx rfl (hb hby d22_108) rfl ?_
    exact kq)
  obtain ⟨u9, eu9⟩ : ∃ q, q = own_gv cf n_ (9 : Int32) pp rr := ⟨_, rfl⟩
  have lu9 := own_gvL eu9 hB hlr
  have f668 := (f655.wr W664)
  have f669 := (f656.other W664 (Or.inl (Nat.ne_of_lt lt_a_b547)))
  have f670 := (f657.other W664 (Or.inl (Nat.ne_of_lt lt_a_b547)))
  have f671 := (f658.other W664 (Nat.ne_of_lt lt_b_b547))
  have f672 := (Nat.le_trans f659 (Keep.of_wr W664).1)
  have f673 := (f660.wr W664 g_b547)
  obtain ⟨_, _, ⟨T667, L667, k667, n667⟩, -, X667, ⟨Lc667, hQ667, l667, y667, z667⟩, st667⟩ := Jvm.LawKit.callS X664 hx (y := (⟨"com/example/role_delegation/roledelegation/RevocationKindNamedPinLaw", "g", "(Ljava/lang/String;IIC)C"⟩ : MethodName)) hown (mvT hZ (wd hw 14 rfl)) (mvT hZ (wd hw 15 rfl)) (mvT hZ (wd hw 11 rfl)) (mvT hZ (wd hw 16 rfl)) (by decide) (backOf (W := 2) (rmG l Z a0 hw [] a b kb cf (9 : Int32) n_ pp rr u9 cs fo h664 n0 f672 f668 f669 f670 f671 hB hlr (by decide) eu9 hCS hcs hSF hfo f673) hZ (wd hw 16 rfl) (wd hw 11 rfl) (by decide) (by decide)) (g := (mkF m 109 #[.val (.ref a), .val (.int pp), .val (.int rr), .val (.ref b547)] [(.int rr), (.int pp), (.int 9), (.ref a), (.int 9), (.ref b547)])) rfl (by rw [hml]; rfl) (argsL := [(.ref a), (.int 9), (.int pp), (.int rr)]) (rest := [(.int 9), (.ref b547)]) (lenOf pd_11 rfl) rfl (by show 2 * 0 + _ ≤ _; exact Nat.le_of_eq rfl) (hb hby d22_109) (fun _ _ => ⟨rfl, e664, (by decide : 1 + 0 ≤ _), (by decide : 10 + 0 ≤ _)⟩)
  dsimp only [Pt.U, Pt.locs, Pt.cells, Pt.slots] at X667 l667 y667 z667 st667 hQ667
  obtain rfl : k667 = 1 := y667
  obtain rfl : n667 = 10 := z667
  obtain ⟨rfl, N667q, e667⟩ := hQ667
  have N667 : Fr n0 L667 := by rw [l667]; exact Fr.app N664 N667q
  have G674 : Go p e below A0 (T667.setTop (mkF m 112 #[.val (.ref a), .val (.int pp), .val (.int rr), .val (.ref b547)] [(.int u9), (.int 9), (.ref b547)])) := fun tq kq => G666 tq (st667 _ kq)
  obtain ⟨cl675, Ar675, q675, S675, M675, H675, Gf675⟩ := id V664'
  have hi676 : ¬ ((9 : Int32) < 0 ∨ cl675.slots.size ≤ ((9 : Int32)).toNatClampNeg) := (inb_of S675 ⟨by decide, by decide⟩)
  obtain ⟨T677, h677, X677, e677, W677, st677⟩ := stC X667 hx hZ e667 Ar675 (j := (9 : Int32)) hi676 (g := (mkF m 112 #[.val (.ref a), .val (.int pp), .val (.int rr), .val (.ref b547)] [(.int u9), (.int 9), (.ref b547)])) rfl rfl (hb hby d22_112)
  rw [show nar .char u9 = u9 from own_nC lu9.R] at W677
  have N677 := Fr.snoc X677 N667 g_b547
  have V677 := Arv.set Ar675 q675 S675 M675 H675 Gf675 (own_fC lu9.R) W677 9 rfl (Nat.le_of_ble_eq_true rfl)
  have V677' : Arv Z h677 b547 k547 .char (10 : Int32) [(.int u0), (.int u1), (.int u2), (.int u3), (.int u4), (.int u5), (.int u6), (.int u7), (.int u8), (.int u9)] (.int 0) := by simp only [List.set_cons_succ, List.set_cons_zero] at V677; exact V677
  have G678 : Go p e below A0 (T677.setTop (mkF m 113 #[.val (.ref a), .val (.int pp), .val (.int rr), .val (.ref b547)] [])) := fun tq kq => G674 tq (st677 _ kq)
  have f680 := (Nat.le_trans f672 (Keep.of_wr W677).1)
  obtain ⟨T679, h679, X679, e679, E679, A679, D679, -, st679⟩ := newO X677 hx hZ hown (wd hw 52 rfl) (wd hw 3 rfl) (wd hw 2 rfl) e677 (g := (mkF m 113 #[.val (.ref a), .val (.int pp), .val (.int rr), .val (.ref b547)] [])) rfl (hb hby d22_113) (by decide) (by decide)
  obtain ⟨b679, g679⟩ : ∃ z, z = h677.size := ⟨_, rfl⟩
  rw [← g679] at A679 D679 st679
  have f681 := (Nat.le_trans (Nat.le_trans (Nat.le_trans (Nat.le_trans (Nat.le_trans (Nat.le_trans (Nat.le_trans (Nat.le_trans (Nat.le_trans (Nat.le_trans (Nat.le_trans (Nat.le_refl h0.size) E547.1) (Keep.of_wr W560).1) (Keep.of_wr W573).1) (Keep.of_wr W586).1) (Keep.of_wr W599).1) (Keep.of_wr W612).1) (Keep.of_wr W625).1) (Keep.of_wr W638).1) (Keep.of_wr W651).1) (Keep.of_wr W664).1) (Keep.of_wr W677).1)
  have sz_b679 : h0.size ≤ b679 := Nat.le_trans f681 (Nat.le_of_eq g679.symm)
  have g_b679 : n0 ≤ b679 := Nat.le_trans f680 (Nat.le_of_eq g679.symm)
  have lt_a_b679 : a < b679 := Nat.lt_of_lt_of_le (f668.wr W677).lt (Nat.le_of_eq g679.symm)
  have lt_b_b679 : b < b679 := Nat.lt_of_lt_of_le (f671.other W677 (Nat.ne_of_lt lt_b_b547)).lt (Nat.le_of_eq g679.symm)
  have lt_b547_b679 : b547 < b679 := Nat.lt_of_lt_of_le V677'.lt (Nat.le_of_eq g679.symm)
  have F679_value : Fld Z h679 b679 "java/lang/String" "value" "[B" .null := D679 (Or.inr (wd hw 5 rfl)) (ty := (.array .byte)) (by decide)
  have F679_coder : Fld Z h679 b679 "java/lang/String" "coder" "B" (.int 0) := D679 (Or.inr (wd hw 6 rfl)) (ty := .byte) (by decide)
  have G682 : Go p e below A0 (T679.setTop (mkF m 116 #[.val (.ref a), .val (.int pp), .val (.int rr), .val (.ref b547)] [(.ref b679)])) := fun tq kq => G678 tq (st679 _ kq)
  have G683 : Go p e below A0 (T679.setTop (mkF m 118 #[.val (.ref a), .val (.int pp), .val (.int rr), .val (.ref b547)] [(.ref b547), (.ref b679), (.ref b679)])) := fun tq kq => G682 tq (by
    refine XS.dup X679.here hx rfl (hb hby d22_116) rfl rfl ?_
    refine XS.aloadN X679.here hx rfl (hb hby d22_117) rfl rfl ?_
    exact kq)
  have f685 := (Nat.le_trans f680 E679.1)
  have f686 := (V677'.ext E679)
  have f687 := ((f673.wr W677 g_b547).ext E679)
  obtain ⟨_, _, ⟨T684, L684, k684, n684⟩, -, X684, ⟨Lc684, hQ684, l684, y684, z684⟩, st684⟩ := X679.specialBack hx (y := (⟨"java/lang/String", "<init>", "([C)V"⟩ : MethodName)) rfl hown (mvT hZ (wd hw 53 rfl)) (mvT hZ (wd hw 54 rfl)) (mvT hZ (wd hw 55 rfl)) (by decide) (backOf (W := 1) (rmH l Z a0 hw [] b679 b547 k547 (own_gw cf n_ pp rr) (10 : Int32) cs fo h679 n0 f685 A679 g_b679 F679_value F679_coder ((Af.of f686).fn (own_cT10 u0 u1 u2 u3 u4 u5 u6 u7 u8 u9 (own_gw cf n_ pp rr) eu0 eu1 eu2 eu3 eu4 eu5 eu6 eu7 eu8 eu9)) (Nat.ne_of_lt lt_b547_b679) (fun j => own_gvL rfl hB hlr) (by decide) hCS hcs hSF hfo f687) hZ (wd hw 55 rfl) (wd hw 2 rfl) (by decide) (by decide)) (g := (mkF m 118 #[.val (.ref a), .val (.int pp), .val (.int rr), .val (.ref b547)] [(.ref b547), (.ref b679), (.ref b679)])) rfl (by rw [hml]; rfl) (Steps.refl _) (a := b679) (argsL := [(.ref b547)]) (rest := [(.ref b679)]) (lenOf pd_12 rfl) rfl (by show 2 * 0 + _ ≤ _; exact Nat.le_of_eq rfl) (hb hby d22_118) (fun _ _ => ⟨rfl, e679, (by decide : 2 + 1 ≤ _), (by decide : 14 + 12 ≤ _)⟩)
  dsimp only [Pt.U, Pt.locs, Pt.cells, Pt.slots] at X684 l684 y684 z684 st684 hQ684
  obtain rfl : k684 = 3 := y684
  obtain rfl : n684 = 26 := z684
  obtain ⟨rfl, N684q, K684, bb684, kk684, Fv684, Fc684, Ab684⟩ := hQ684
  have N684 : Fr n0 L684 := by rw [l684]; exact Fr.app N677 N684q
  have G688 : Go p e below A0 (T684.setTop (mkF m 121 #[.val (.ref a), .val (.int pp), .val (.int rr), .val (.ref b547)] [(.ref b679)])) := fun tq kq => G683 tq (st684.trans kq)
  have f689 := (A679.keep K684)
  obtain ⟨fs, hr, hrun, hended, hW, hsame⟩ := X684.leave (v := some (.ref b679)) (fun h => by rw [Bd.returns] at h; cases h)
  refine ⟨_, _, (by rw [← hA0]; exact G688 _ (retOut X684 hx (t := (.object "java/lang/String")) Bd.returns rfl (Or.inr (Or.inr (Or.inr (Or.inr ⟨rfl, rfl, rfl⟩)))) (hb hby d22_121) hr)), hrun, hended, _, _, rfl, ?_, ⟨_, rfl⟩, hW, hsame.mono (by decide) (by decide)⟩
  show Qw Z (10 : Int32) (own_gw cf n_ pp rr) h0 n0 _ T684.heap _
  exact ⟨b679, bb684, kk684, rfl, N684, ((((((((((((((Keep.refl h0 []).ext E547).wr W560 (Or.inr sz_b547)).wr W573 (Or.inr sz_b547)).wr W586 (Or.inr sz_b547)).wr W599 (Or.inr sz_b547)).wr W612 (Or.inr sz_b547)).wr W625 (Or.inr sz_b547)).wr W638 (Or.inr sz_b547)).wr W651 (Or.inr sz_b547)).wr W664 (Or.inr sz_b547)).wr W677 (Or.inr sz_b547)).ext E679).trans K684 (allS (P := fun x => x ∈ [] ∨ h0.size ≤ x) (Or.inr sz_b679) all0)), g_b679, f689, Fv684, Fc684, Ab684⟩
set_option maxRecDepth 65536 in
set_option maxHeartbeats 40000000 in
theorem rmW12 (l : Launch) (Z : State) (a0 : Array Value) (hw : ∀ d ∈ tables_1, d.before a0 Z = true) (ws : List Jvm.Cond) (a b : Addr) (kb : ClassId) (cf : Nat → Int32) (n_ pp rr : Int32) (cs : Int32) (fo : Value) (h0 : Heap) (n0 : Nat) (Z0 : n0 ≤ h0.size) (E : Exa Z h0 a "java/lang/String") (Fv : Fld Z h0 a "java/lang/String" "value" "[B" (.ref b)) (Fc : Fld Z h0 a "java/lang/String" "coder" "B" (.int 0)) (Ab : Af Z h0 b kb .byte n_ (fun j => .int (own_by (cf j)))) (hB : ∀ j, own_L (cf j)) (hlr : own_L rr) (hCS : Sta Z Z.heap "java/lang/String" "COMPACT_STRINGS" "Z" (.int cs)) (hcs : ¬ cs = (0 : Int32)) (hSF : Sta Z Z.heap "jdk/internal/util/Preconditions" "SIOOBE_FORMATTER" "Ljava/util/function/BiFunction;" fo) (hfo : fo.isRef = true) (hold : Old Z n0 h0) :
    MetFree l (⟨"com/example/role_delegation/roledelegation/RevocationKindNamedPinLaw", "w12", "(Ljava/lang/String;IC)Ljava/lang/String;"⟩ : MethodName) (head1 (Jvm.Cond.code (⟨"com/example/role_delegation/roledelegation/RevocationKindNamedPinLaw", "w12", "(Ljava/lang/String;IC)Ljava/lang/String;"⟩ : MethodName) method_8_code 4 (some (.object "java/lang/String")) :: ws) (Rm 5 3 28 70)) (fun aa UU => aa = #[(.ref a), (.int pp), (.int rr)] ∧ Z.Warmed39 UU.vm ∧ UU.heap = h0) (fun _ _ _ _ _ => True) (fun _ UU oo U' => ∃ v L, oo = .returned v ∧ Qw Z (12 : Int32) (own_gw cf n_ pp rr) h0 n0 v U'.heap L ∧ FrameEnd UU oo U' L (Rm 5 3 28 70).cells (Rm 5 3 28 70).slots) := by
  refine MetFree.of_bodySF (plainFor_of_name pn_3) hisR ?_
  intro p e s m args below meth c s₁ Bd hml0 hP hK
  obtain ⟨rfl, hZ, hh⟩ := hP
  have hx := Bd.exec
  have hby := Bd.bytes
  have hml : c.maxLocals = 4 := hml0
  have hown : s.vm.findClass "com/example/role_delegation/roledelegation/RevocationKindNamedPinLaw" = some m.cls := findClass_of_methodNamed Bd.named
  have hnm := (name_of_methodNamed Bd.named Bd.method).1
  have X0 : Stand p l e (Rm 5 3 28 70) s m #[(.ref a), (.int pp), (.int rr)] below meth c s₁ [] 0 0 := Stand.of_body Bd
  have e0 : s₁.heap = h0 := by rw [← hh, Bd.state]; rfl
  have N0 := Fr.nil n0
  obtain ⟨A0, hA0⟩ : ∃ A, A = s₁.setTop (entryFrame m #[(.ref a), (.int pp), (.int rr)] 4) := ⟨_, rfl⟩
  have G0 : Go p e below A0 (s₁.setTop (mkF m 0 #[.val (.ref a), .val (.int pp), .val (.int rr), .unset] [])) := fun tq kq => by rw [hA0]; exact castTop (ef_rmW12 m a pp rr) kq
  have G690 : Go p e below A0 (s₁.setTop (mkF m 2 #[.val (.ref a), .val (.int pp), .val (.int rr), .unset] [(.int 12)])) := fun tq kq => G0 tq (by
    refine XS.bipush X0.here hx rfl (hb hby d23_0) ?_
    exact kq)
  obtain ⟨T691, h691, k691, X691, e691, E691, A691, st691⟩ := newP X0 hx hZ (wd hw 13 rfl) e0 (g := (mkF m 2 #[.val (.ref a), .val (.int pp), .val (.int rr), .unset] [(.int 12)])) rfl (hb hby d23_2) rfl (by decide) (cap := 12) (by decide) (by decide) (by decide) (by decide)
  obtain ⟨b691, g691⟩ : ∃ z, z = h0.size := ⟨_, rfl⟩
  rw [← g691] at A691 st691
  have sz_b691 : h0.size ≤ b691 := Nat.le_trans (Nat.le_refl h0.size) (Nat.le_of_eq g691.symm)
  have g_b691 : n0 ≤ b691 := Nat.le_trans Z0 (Nat.le_of_eq g691.symm)
  have lt_a_b691 : a < b691 := Nat.lt_of_lt_of_le E.lt (Nat.le_of_eq g691.symm)
  have lt_b_b691 : b < b691 := Nat.lt_of_lt_of_le Ab.lt (Nat.le_of_eq g691.symm)
  have V691 : Arv Z h691 b691 k691 .char (12 : Int32) [(.int 0), (.int 0), (.int 0), (.int 0), (.int 0), (.int 0), (.int 0), (.int 0), (.int 0), (.int 0), (.int 0), (.int 0)] (.int 0) := (Arv.new A691 (by decide)).pad (pad_rep [] (.int 0) 12)
  have G692 : Go p e below A0 (T691.setTop (mkF m 4 #[.val (.ref a), .val (.int pp), .val (.int rr), .unset] [(.ref b691)])) := fun tq kq => G690 tq (st691 _ kq)
  have G693 : Go p e below A0 (T691.setTop (mkF m 11 #[.val (.ref a), .val (.int pp), .val (.int rr), .val (.ref b691)] [(.int rr), (.int pp), (.int 0), (.ref a), (.int 0), (.ref b691)])) := fun tq kq => G692 tq (by
    refine XS.astoreN X691.here hx rfl (hb hby d23_4) rfl rfl (l' := #[.val (.ref a), .val (.int pp), .val (.int rr), .val (.ref b691)]) rfl ?_
    refine XS.aloadN X691.here hx rfl (hb hby d23_5) rfl rfl ?_
    refine XS.iconst X691.here hx rfl (hb hby d23_6) ?_
    refine XS.aloadN X691.here hx rfl (hb hby d23_7) rfl rfl ?_
    refine XS.iconst X691.here hx rfl (hb hby d23_8) ?_
    refine XS.iloadN X691.here hx rfl (hb hby d23_9) rfl ?_
    refine XS.iloadN X691.here hx rfl (hb hby d23_10) rfl ?_
    exact kq)
  obtain ⟨u0, eu0⟩ : ∃ q, q = own_gv cf n_ (0 : Int32) pp rr := ⟨_, rfl⟩
  have lu0 := own_gvL eu0 hB hlr
  have f695 := (E.ext E691)
  have f696 := (Fv.ext E691)
  have f697 := (Fc.ext E691)
  have f698 := (Ab.ext E691)
  have f699 := (Nat.le_trans Z0 E691.1)
  have f700 := (hold.ext E691)
  obtain ⟨_, _, ⟨T694, L694, k694, n694⟩, -, X694, ⟨Lc694, hQ694, l694, y694, z694⟩, st694⟩ := Jvm.LawKit.callS X691 hx (y := (⟨"com/example/role_delegation/roledelegation/RevocationKindNamedPinLaw", "g", "(Ljava/lang/String;IIC)C"⟩ : MethodName)) hown (mvT hZ (wd hw 14 rfl)) (mvT hZ (wd hw 15 rfl)) (mvT hZ (wd hw 11 rfl)) (mvT hZ (wd hw 16 rfl)) (by decide) (backOf (W := 2) (rmG l Z a0 hw [] a b kb cf (0 : Int32) n_ pp rr u0 cs fo h691 n0 f699 f695 f696 f697 f698 hB hlr (by decide) eu0 hCS hcs hSF hfo f700) hZ (wd hw 16 rfl) (wd hw 11 rfl) (by decide) (by decide)) (g := (mkF m 11 #[.val (.ref a), .val (.int pp), .val (.int rr), .val (.ref b691)] [(.int rr), (.int pp), (.int 0), (.ref a), (.int 0), (.ref b691)])) rfl (by rw [hml]; rfl) (argsL := [(.ref a), (.int 0), (.int pp), (.int rr)]) (rest := [(.int 0), (.ref b691)]) (lenOf pd_11 rfl) rfl (by show 2 * 0 + _ ≤ _; exact Nat.le_of_eq rfl) (hb hby d23_11) (fun _ _ => ⟨rfl, e691, (by decide : 1 + 0 ≤ _), (by decide : 12 + 0 ≤ _)⟩)
  dsimp only [Pt.U, Pt.locs, Pt.cells, Pt.slots] at X694 l694 y694 z694 st694 hQ694
  obtain rfl : k694 = 1 := y694
  obtain rfl : n694 = 12 := z694
  obtain ⟨rfl, N694q, e694⟩ := hQ694
  have N694 : Fr n0 L694 := by rw [l694]; exact Fr.app N0 N694q
  have G701 : Go p e below A0 (T694.setTop (mkF m 14 #[.val (.ref a), .val (.int pp), .val (.int rr), .val (.ref b691)] [(.int u0), (.int 0), (.ref b691)])) := fun tq kq => G693 tq (st694 _ kq)
  obtain ⟨cl702, Ar702, q702, S702, M702, H702, Gf702⟩ := id V691
  have hi703 : ¬ ((0 : Int32) < 0 ∨ cl702.slots.size ≤ ((0 : Int32)).toNatClampNeg) := (inb_of S702 ⟨by decide, by decide⟩)
  obtain ⟨T704, h704, X704, e704, W704, st704⟩ := stC X694 hx hZ e694 Ar702 (j := (0 : Int32)) hi703 (g := (mkF m 14 #[.val (.ref a), .val (.int pp), .val (.int rr), .val (.ref b691)] [(.int u0), (.int 0), (.ref b691)])) rfl rfl (hb hby d23_14)
  rw [show nar .char u0 = u0 from own_nC lu0.R] at W704
  have N704 := Fr.snoc X704 N694 g_b691
  have V704 := Arv.set Ar702 q702 S702 M702 H702 Gf702 (own_fC lu0.R) W704 0 rfl (Nat.le_of_ble_eq_true rfl)
  have V704' : Arv Z h704 b691 k691 .char (12 : Int32) [(.int u0), (.int 0), (.int 0), (.int 0), (.int 0), (.int 0), (.int 0), (.int 0), (.int 0), (.int 0), (.int 0), (.int 0)] (.int 0) := by exact V704
  have G705 : Go p e below A0 (T704.setTop (mkF m 15 #[.val (.ref a), .val (.int pp), .val (.int rr), .val (.ref b691)] [])) := fun tq kq => G701 tq (st704 _ kq)
  have G706 : Go p e below A0 (T704.setTop (mkF m 21 #[.val (.ref a), .val (.int pp), .val (.int rr), .val (.ref b691)] [(.int rr), (.int pp), (.int 1), (.ref a), (.int 1), (.ref b691)])) := fun tq kq => G705 tq (by
    refine XS.aloadN X704.here hx rfl (hb hby d23_15) rfl rfl ?_
    refine XS.iconst X704.here hx rfl (hb hby d23_16) ?_
    refine XS.aloadN X704.here hx rfl (hb hby d23_17) rfl rfl ?_
    refine XS.iconst X704.here hx rfl (hb hby d23_18) ?_
    refine XS.iloadN X704.here hx rfl (hb hby d23_19) rfl ?_
    refine XS.iloadN X704.here hx rfl (hb hby d23_20) rfl ?_
    exact kq)
  obtain ⟨u1, eu1⟩ : ∃ q, q = own_gv cf n_ (1 : Int32) pp rr := ⟨_, rfl⟩
  have lu1 := own_gvL eu1 hB hlr
  have f708 := (f695.wr W704)
  have f709 := (f696.other W704 (Or.inl (Nat.ne_of_lt lt_a_b691)))
  have f710 := (f697.other W704 (Or.inl (Nat.ne_of_lt lt_a_b691)))
  have f711 := (f698.other W704 (Nat.ne_of_lt lt_b_b691))
  have f712 := (Nat.le_trans f699 (Keep.of_wr W704).1)
  have f713 := (f700.wr W704 g_b691)
  obtain ⟨_, _, ⟨T707, L707, k707, n707⟩, -, X707, ⟨Lc707, hQ707, l707, y707, z707⟩, st707⟩ := Jvm.LawKit.callS X704 hx (y := (⟨"com/example/role_delegation/roledelegation/RevocationKindNamedPinLaw", "g", "(Ljava/lang/String;IIC)C"⟩ : MethodName)) hown (mvT hZ (wd hw 14 rfl)) (mvT hZ (wd hw 15 rfl)) (mvT hZ (wd hw 11 rfl)) (mvT hZ (wd hw 16 rfl)) (by decide) (backOf (W := 2) (rmG l Z a0 hw [] a b kb cf (1 : Int32) n_ pp rr u1 cs fo h704 n0 f712 f708 f709 f710 f711 hB hlr (by decide) eu1 hCS hcs hSF hfo f713) hZ (wd hw 16 rfl) (wd hw 11 rfl) (by decide) (by decide)) (g := (mkF m 21 #[.val (.ref a), .val (.int pp), .val (.int rr), .val (.ref b691)] [(.int rr), (.int pp), (.int 1), (.ref a), (.int 1), (.ref b691)])) rfl (by rw [hml]; rfl) (argsL := [(.ref a), (.int 1), (.int pp), (.int rr)]) (rest := [(.int 1), (.ref b691)]) (lenOf pd_11 rfl) rfl (by show 2 * 0 + _ ≤ _; exact Nat.le_of_eq rfl) (hb hby d23_21) (fun _ _ => ⟨rfl, e704, (by decide : 1 + 0 ≤ _), (by decide : 12 + 0 ≤ _)⟩)
  dsimp only [Pt.U, Pt.locs, Pt.cells, Pt.slots] at X707 l707 y707 z707 st707 hQ707
  obtain rfl : k707 = 1 := y707
  obtain rfl : n707 = 12 := z707
  obtain ⟨rfl, N707q, e707⟩ := hQ707
  have N707 : Fr n0 L707 := by rw [l707]; exact Fr.app N704 N707q
  have G714 : Go p e below A0 (T707.setTop (mkF m 24 #[.val (.ref a), .val (.int pp), .val (.int rr), .val (.ref b691)] [(.int u1), (.int 1), (.ref b691)])) := fun tq kq => G706 tq (st707 _ kq)
  obtain ⟨cl715, Ar715, q715, S715, M715, H715, Gf715⟩ := id V704'
  have hi716 : ¬ ((1 : Int32) < 0 ∨ cl715.slots.size ≤ ((1 : Int32)).toNatClampNeg) := (inb_of S715 ⟨by decide, by decide⟩)
  obtain ⟨T717, h717, X717, e717, W717, st717⟩ := stC X707 hx hZ e707 Ar715 (j := (1 : Int32)) hi716 (g := (mkF m 24 #[.val (.ref a), .val (.int pp), .val (.int rr), .val (.ref b691)] [(.int u1), (.int 1), (.ref b691)])) rfl rfl (hb hby d23_24)
  rw [show nar .char u1 = u1 from own_nC lu1.R] at W717
  have N717 := Fr.snoc X717 N707 g_b691
  have V717 := Arv.set Ar715 q715 S715 M715 H715 Gf715 (own_fC lu1.R) W717 1 rfl (Nat.le_of_ble_eq_true rfl)
  have V717' : Arv Z h717 b691 k691 .char (12 : Int32) [(.int u0), (.int u1), (.int 0), (.int 0), (.int 0), (.int 0), (.int 0), (.int 0), (.int 0), (.int 0), (.int 0), (.int 0)] (.int 0) := by exact V717
  have G718 : Go p e below A0 (T717.setTop (mkF m 25 #[.val (.ref a), .val (.int pp), .val (.int rr), .val (.ref b691)] [])) := fun tq kq => G714 tq (st717 _ kq)
  have G719 : Go p e below A0 (T717.setTop (mkF m 31 #[.val (.ref a), .val (.int pp), .val (.int rr), .val (.ref b691)] [(.int rr), (.int pp), (.int 2), (.ref a), (.int 2), (.ref b691)])) := fun tq kq => G718 tq (by
    refine XS.aloadN X717.here hx rfl (hb hby d23_25) rfl rfl ?_
    refine XS.iconst X717.here hx rfl (hb hby d23_26) ?_
    refine XS.aloadN X717.here hx rfl (hb hby d23_27) rfl rfl ?_
    refine XS.iconst X717.here hx rfl (hb hby d23_28) ?_
    refine XS.iloadN X717.here hx rfl (hb hby d23_29) rfl ?_
    refine XS.iloadN X717.here hx rfl (hb hby d23_30) rfl ?_
    exact kq)
  obtain ⟨u2, eu2⟩ : ∃ q, q = own_gv cf n_ (2 : Int32) pp rr := ⟨_, rfl⟩
  have lu2 := own_gvL eu2 hB hlr
  have f721 := (f708.wr W717)
  have f722 := (f709.other W717 (Or.inl (Nat.ne_of_lt lt_a_b691)))
  have f723 := (f710.other W717 (Or.inl (Nat.ne_of_lt lt_a_b691)))
  have f724 := (f711.other W717 (Nat.ne_of_lt lt_b_b691))
  have f725 := (Nat.le_trans f712 (Keep.of_wr W717).1)
  have f726 := (f713.wr W717 g_b691)
  obtain ⟨_, _, ⟨T720, L720, k720, n720⟩, -, X720, ⟨Lc720, hQ720, l720, y720, z720⟩, st720⟩ := Jvm.LawKit.callS X717 hx (y := (⟨"com/example/role_delegation/roledelegation/RevocationKindNamedPinLaw", "g", "(Ljava/lang/String;IIC)C"⟩ : MethodName)) hown (mvT hZ (wd hw 14 rfl)) (mvT hZ (wd hw 15 rfl)) (mvT hZ (wd hw 11 rfl)) (mvT hZ (wd hw 16 rfl)) (by decide) (backOf (W := 2) (rmG l Z a0 hw [] a b kb cf (2 : Int32) n_ pp rr u2 cs fo h717 n0 f725 f721 f722 f723 f724 hB hlr (by decide) eu2 hCS hcs hSF hfo f726) hZ (wd hw 16 rfl) (wd hw 11 rfl) (by decide) (by decide)) (g := (mkF m 31 #[.val (.ref a), .val (.int pp), .val (.int rr), .val (.ref b691)] [(.int rr), (.int pp), (.int 2), (.ref a), (.int 2), (.ref b691)])) rfl (by rw [hml]; rfl) (argsL := [(.ref a), (.int 2), (.int pp), (.int rr)]) (rest := [(.int 2), (.ref b691)]) (lenOf pd_11 rfl) rfl (by show 2 * 0 + _ ≤ _; exact Nat.le_of_eq rfl) (hb hby d23_31) (fun _ _ => ⟨rfl, e717, (by decide : 1 + 0 ≤ _), (by decide : 12 + 0 ≤ _)⟩)
  dsimp only [Pt.U, Pt.locs, Pt.cells, Pt.slots] at X720 l720 y720 z720 st720 hQ720
  obtain rfl : k720 = 1 := y720
  obtain rfl : n720 = 12 := z720
  obtain ⟨rfl, N720q, e720⟩ := hQ720
  have N720 : Fr n0 L720 := by rw [l720]; exact Fr.app N717 N720q
  have G727 : Go p e below A0 (T720.setTop (mkF m 34 #[.val (.ref a), .val (.int pp), .val (.int rr), .val (.ref b691)] [(.int u2), (.int 2), (.ref b691)])) := fun tq kq => G719 tq (st720 _ kq)
  obtain ⟨cl728, Ar728, q728, S728, M728, H728, Gf728⟩ := id V717'
  have hi729 : ¬ ((2 : Int32) < 0 ∨ cl728.slots.size ≤ ((2 : Int32)).toNatClampNeg) := (inb_of S728 ⟨by decide, by decide⟩)
  obtain ⟨T730, h730, X730, e730, W730, st730⟩ := stC X720 hx hZ e720 Ar728 (j := (2 : Int32)) hi729 (g := (mkF m 34 #[.val (.ref a), .val (.int pp), .val (.int rr), .val (.ref b691)] [(.int u2), (.int 2), (.ref b691)])) rfl rfl (hb hby d23_34)
  rw [show nar .char u2 = u2 from own_nC lu2.R] at W730
  have N730 := Fr.snoc X730 N720 g_b691
  have V730 := Arv.set Ar728 q728 S728 M728 H728 Gf728 (own_fC lu2.R) W730 2 rfl (Nat.le_of_ble_eq_true rfl)
  have V730' : Arv Z h730 b691 k691 .char (12 : Int32) [(.int u0), (.int u1), (.int u2), (.int 0), (.int 0), (.int 0), (.int 0), (.int 0), (.int 0), (.int 0), (.int 0), (.int 0)] (.int 0) := by exact V730
  have G731 : Go p e below A0 (T730.setTop (mkF m 35 #[.val (.ref a), .val (.int pp), .val (.int rr), .val (.ref b691)] [])) := fun tq kq => G727 tq (st730 _ kq)
  have G732 : Go p e below A0 (T730.setTop (mkF m 41 #[.val (.ref a), .val (.int pp), .val (.int rr), .val (.ref b691)] [(.int rr), (.int pp), (.int 3), (.ref a), (.int 3), (.ref b691)])) := fun tq kq => G731 tq (by
    refine XS.aloadN X730.here hx rfl (hb hby d23_35) rfl rfl ?_
    refine XS.iconst X730.here hx rfl (hb hby d23_36) ?_
    refine XS.aloadN X730.here hx rfl (hb hby d23_37) rfl rfl ?_
    refine XS.iconst X730.here hx rfl (hb hby d23_38) ?_
    refine XS.iloadN X730.here hx rfl (hb hby d23_39) rfl ?_
    refine XS.iloadN X730.here hx rfl (hb hby d23_40) rfl ?_
    exact kq)
  obtain ⟨u3, eu3⟩ : ∃ q, q = own_gv cf n_ (3 : Int32) pp rr := ⟨_, rfl⟩
  have lu3 := own_gvL eu3 hB hlr
  have f734 := (f721.wr W730)
  have f735 := (f722.other W730 (Or.inl (Nat.ne_of_lt lt_a_b691)))
  have f736 := (f723.other W730 (Or.inl (Nat.ne_of_lt lt_a_b691)))
  have f737 := (f724.other W730 (Nat.ne_of_lt lt_b_b691))
  have f738 := (Nat.le_trans f725 (Keep.of_wr W730).1)
  have f739 := (f726.wr W730 g_b691)
  obtain ⟨_, _, ⟨T733, L733, k733, n733⟩, -, X733, ⟨Lc733, hQ733, l733, y733, z733⟩, st733⟩ := Jvm.LawKit.callS X730 hx (y := (⟨"com/example/role_delegation/roledelegation/RevocationKindNamedPinLaw", "g", "(Ljava/lang/String;IIC)C"⟩ : MethodName)) hown (mvT hZ (wd hw 14 rfl)) (mvT hZ (wd hw 15 rfl)) (mvT hZ (wd hw 11 rfl)) (mvT hZ (wd hw 16 rfl)) (by decide) (backOf (W := 2) (rmG l Z a0 hw [] a b kb cf (3 : Int32) n_ pp rr u3 cs fo h730 n0 f738 f734 f735 f736 f737 hB hlr (by decide) eu3 hCS hcs hSF hfo f739) hZ (wd hw 16 rfl) (wd hw 11 rfl) (by decide) (by decide)) (g := (mkF m 41 #[.val (.ref a), .val (.int pp), .val (.int rr), .val (.ref b691)] [(.int rr), (.int pp), (.int 3), (.ref a), (.int 3), (.ref b691)])) rfl (by rw [hml]; rfl) (argsL := [(.ref a), (.int 3), (.int pp), (.int rr)]) (rest := [(.int 3), (.ref b691)]) (lenOf pd_11 rfl) rfl (by show 2 * 0 + _ ≤ _; exact Nat.le_of_eq rfl) (hb hby d23_41) (fun _ _ => ⟨rfl, e730, (by decide : 1 + 0 ≤ _), (by decide : 12 + 0 ≤ _)⟩)
  dsimp only [Pt.U, Pt.locs, Pt.cells, Pt.slots] at X733 l733 y733 z733 st733 hQ733
  obtain rfl : k733 = 1 := y733
  obtain rfl : n733 = 12 := z733
  obtain ⟨rfl, N733q, e733⟩ := hQ733
  have N733 : Fr n0 L733 := by rw [l733]; exact Fr.app N730 N733q
  have G740 : Go p e below A0 (T733.setTop (mkF m 44 #[.val (.ref a), .val (.int pp), .val (.int rr), .val (.ref b691)] [(.int u3), (.int 3), (.ref b691)])) := fun tq kq => G732 tq (st733 _ kq)
  obtain ⟨cl741, Ar741, q741, S741, M741, H741, Gf741⟩ := id V730'
  have hi742 : ¬ ((3 : Int32) < 0 ∨ cl741.slots.size ≤ ((3 : Int32)).toNatClampNeg) := (inb_of S741 ⟨by decide, by decide⟩)
  obtain ⟨T743, h743, X743, e743, W743, st743⟩ := stC X733 hx hZ e733 Ar741 (j := (3 : Int32)) hi742 (g := (mkF m 44 #[.val (.ref a), .val (.int pp), .val (.int rr), .val (.ref b691)] [(.int u3), (.int 3), (.ref b691)])) rfl rfl (hb hby d23_44)
  rw [show nar .char u3 = u3 from own_nC lu3.R] at W743
  have N743 := Fr.snoc X743 N733 g_b691
  have V743 := Arv.set Ar741 q741 S741 M741 H741 Gf741 (own_fC lu3.R) W743 3 rfl (Nat.le_of_ble_eq_true rfl)
  have V743' : Arv Z h743 b691 k691 .char (12 : Int32) [(.int u0), (.int u1), (.int u2), (.int u3), (.int 0), (.int 0), (.int 0), (.int 0), (.int 0), (.int 0), (.int 0), (.int 0)] (.int 0) := by exact V743
  have G744 : Go p e below A0 (T743.setTop (mkF m 45 #[.val (.ref a), .val (.int pp), .val (.int rr), .val (.ref b691)] [])) := fun tq kq => G740 tq (st743 _ kq)
  have G745 : Go p e below A0 (T743.setTop (mkF m 51 #[.val (.ref a), .val (.int pp), .val (.int rr), .val (.ref b691)] [(.int rr), (.int pp), (.int 4), (.ref a), (.int 4), (.ref b691)])) := fun tq kq => G744 tq (by
    refine XS.aloadN X743.here hx rfl (hb hby d23_45) rfl rfl ?_
    refine XS.iconst X743.here hx rfl (hb hby d23_46) ?_
    refine XS.aloadN X743.here hx rfl (hb hby d23_47) rfl rfl ?_
    refine XS.iconst X743.here hx rfl (hb hby d23_48) ?_
    refine XS.iloadN X743.here hx rfl (hb hby d23_49) rfl ?_
    refine XS.iloadN X743.here hx rfl (hb hby d23_50) rfl ?_
    exact kq)
  obtain ⟨u4, eu4⟩ : ∃ q, q = own_gv cf n_ (4 : Int32) pp rr := ⟨_, rfl⟩
  have lu4 := own_gvL eu4 hB hlr
  have f747 := (f734.wr W743)
  have f748 := (f735.other W743 (Or.inl (Nat.ne_of_lt lt_a_b691)))
  have f749 := (f736.other W743 (Or.inl (Nat.ne_of_lt lt_a_b691)))
  have f750 := (f737.other W743 (Nat.ne_of_lt lt_b_b691))
  have f751 := (Nat.le_trans f738 (Keep.of_wr W743).1)
  have f752 := (f739.wr W743 g_b691)
  obtain ⟨_, _, ⟨T746, L746, k746, n746⟩, -, X746, ⟨Lc746, hQ746, l746, y746, z746⟩, st746⟩ := Jvm.LawKit.callS X743 hx (y := (⟨"com/example/role_delegation/roledelegation/RevocationKindNamedPinLaw", "g", "(Ljava/lang/String;IIC)C"⟩ : MethodName)) hown (mvT hZ (wd hw 14 rfl)) (mvT hZ (wd hw 15 rfl)) (mvT hZ (wd hw 11 rfl)) (mvT hZ (wd hw 16 rfl)) (by decide) (backOf (W := 2) (rmG l Z a0 hw [] a b kb cf (4 : Int32) n_ pp rr u4 cs fo h743 n0 f751 f747 f748 f749 f750 hB hlr (by decide) eu4 hCS hcs hSF hfo f752) hZ (wd hw 16 rfl) (wd hw 11 rfl) (by decide) (by decide)) (g := (mkF m 51 #[.val (.ref a), .val (.int pp), .val (.int rr), .val (.ref b691)] [(.int rr), (.int pp), (.int 4), (.ref a), (.int 4), (.ref b691)])) rfl (by rw [hml]; rfl) (argsL := [(.ref a), (.int 4), (.int pp), (.int rr)]) (rest := [(.int 4), (.ref b691)]) (lenOf pd_11 rfl) rfl (by show 2 * 0 + _ ≤ _; exact Nat.le_of_eq rfl) (hb hby d23_51) (fun _ _ => ⟨rfl, e743, (by decide : 1 + 0 ≤ _), (by decide : 12 + 0 ≤ _)⟩)
  dsimp only [Pt.U, Pt.locs, Pt.cells, Pt.slots] at X746 l746 y746 z746 st746 hQ746
  obtain rfl : k746 = 1 := y746
  obtain rfl : n746 = 12 := z746
  obtain ⟨rfl, N746q, e746⟩ := hQ746
  have N746 : Fr n0 L746 := by rw [l746]; exact Fr.app N743 N746q
  have G753 : Go p e below A0 (T746.setTop (mkF m 54 #[.val (.ref a), .val (.int pp), .val (.int rr), .val (.ref b691)] [(.int u4), (.int 4), (.ref b691)])) := fun tq kq => G745 tq (st746 _ kq)
  obtain ⟨cl754, Ar754, q754, S754, M754, H754, Gf754⟩ := id V743'
  have hi755 : ¬ ((4 : Int32) < 0 ∨ cl754.slots.size ≤ ((4 : Int32)).toNatClampNeg) := (inb_of S754 ⟨by decide, by decide⟩)
  obtain ⟨T756, h756, X756, e756, W756, st756⟩ := stC X746 hx hZ e746 Ar754 (j := (4 : Int32)) hi755 (g := (mkF m 54 #[.val (.ref a), .val (.int pp), .val (.int rr), .val (.ref b691)] [(.int u4), (.int 4), (.ref b691)])) rfl rfl (hb hby d23_54)
  rw [show nar .char u4 = u4 from own_nC lu4.R] at W756
  have N756 := Fr.snoc X756 N746 g_b691
  have V756 := Arv.set Ar754 q754 S754 M754 H754 Gf754 (own_fC lu4.R) W756 4 rfl (Nat.le_of_ble_eq_true rfl)
  have V756' : Arv Z h756 b691 k691 .char (12 : Int32) [(.int u0), (.int u1), (.int u2), (.int u3), (.int u4), (.int 0), (.int 0), (.int 0), (.int 0), (.int 0), (.int 0), (.int 0)] (.int 0) := by simp only [List.set_cons_succ, List.set_cons_zero] at V756; exact V756
  have G757 : Go p e below A0 (T756.setTop (mkF m 55 #[.val (.ref a), .val (.int pp), .val (.int rr), .val (.ref b691)] [])) := fun tq kq => G753 tq (st756 _ kq)
  have G758 : Go p e below A0 (T756.setTop (mkF m 61 #[.val (.ref a), .val (.int pp), .val (.int rr), .val (.ref b691)] [(.int rr), (.int pp), (.int 5), (.ref a), (.int 5), (.ref b691)])) := fun tq kq => G757 tq (by
    refine XS.aloadN X756.here hx rfl (hb hby d23_55) rfl rfl ?_
    refine XS.iconst X756.here hx rfl (hb hby d23_56) ?_
    refine XS.aloadN X756.here hx rfl (hb hby d23_57) rfl rfl ?_
    refine XS.iconst X756.here hx rfl (hb hby d23_58) ?_
    refine XS.iloadN X756.here hx rfl (hb hby d23_59) rfl ?_
    refine XS.iloadN X756.here hx rfl (hb hby d23_60) rfl ?_
    exact kq)
  obtain ⟨u5, eu5⟩ : ∃ q, q = own_gv cf n_ (5 : Int32) pp rr := ⟨_, rfl⟩
  have lu5 := own_gvL eu5 hB hlr
  have f760 := (f747.wr W756)
  have f761 := (f748.other W756 (Or.inl (Nat.ne_of_lt lt_a_b691)))
  have f762 := (f749.other W756 (Or.inl (Nat.ne_of_lt lt_a_b691)))
  have f763 := (f750.other W756 (Nat.ne_of_lt lt_b_b691))
  have f764 := (Nat.le_trans f751 (Keep.of_wr W756).1)
  have f765 := (f752.wr W756 g_b691)
  obtain ⟨_, _, ⟨T759, L759, k759, n759⟩, -, X759, ⟨Lc759, hQ759, l759, y759, z759⟩, st759⟩ := Jvm.LawKit.callS X756 hx (y := (⟨"com/example/role_delegation/roledelegation/RevocationKindNamedPinLaw", "g", "(Ljava/lang/String;IIC)C"⟩ : MethodName)) hown (mvT hZ (wd hw 14 rfl)) (mvT hZ (wd hw 15 rfl)) (mvT hZ (wd hw 11 rfl)) (mvT hZ (wd hw 16 rfl)) (by decide) (backOf (W := 2) (rmG l Z a0 hw [] a b kb cf (5 : Int32) n_ pp rr u5 cs fo h756 n0 f764 f760 f761 f762 f763 hB hlr (by decide) eu5 hCS hcs hSF hfo f765) hZ (wd hw 16 rfl) (wd hw 11 rfl) (by decide) (by decide)) (g := (mkF m 61 #[.val (.ref a), .val (.int pp), .val (.int rr), .val (.ref b691)] [(.int rr), (.int pp), (.int 5), (.ref a), (.int 5), (.ref b691)])) rfl (by rw [hml]; rfl) (argsL := [(.ref a), (.int 5), (.int pp), (.int rr)]) (rest := [(.int 5), (.ref b691)]) (lenOf pd_11 rfl) rfl (by show 2 * 0 + _ ≤ _; exact Nat.le_of_eq rfl) (hb hby d23_61) (fun _ _ => ⟨rfl, e756, (by decide : 1 + 0 ≤ _), (by decide : 12 + 0 ≤ _)⟩)
  dsimp only [Pt.U, Pt.locs, Pt.cells, Pt.slots] at X759 l759 y759 z759 st759 hQ759
  obtain rfl : k759 = 1 := y759
  obtain rfl : n759 = 12 := z759
  obtain ⟨rfl, N759q, e759⟩ := hQ759
  have N759 : Fr n0 L759 := by rw [l759]; exact Fr.app N756 N759q
  have G766 : Go p e below A0 (T759.setTop (mkF m 64 #[.val (.ref a), .val (.int pp), .val (.int rr), .val (.ref b691)] [(.int u5), (.int 5), (.ref b691)])) := fun tq kq => G758 tq (st759 _ kq)
  obtain ⟨cl767, Ar767, q767, S767, M767, H767, Gf767⟩ := id V756'
  have hi768 : ¬ ((5 : Int32) < 0 ∨ cl767.slots.size ≤ ((5 : Int32)).toNatClampNeg) := (inb_of S767 ⟨by decide, by decide⟩)
  obtain ⟨T769, h769, X769, e769, W769, st769⟩ := stC X759 hx hZ e759 Ar767 (j := (5 : Int32)) hi768 (g := (mkF m 64 #[.val (.ref a), .val (.int pp), .val (.int rr), .val (.ref b691)] [(.int u5), (.int 5), (.ref b691)])) rfl rfl (hb hby d23_64)
  rw [show nar .char u5 = u5 from own_nC lu5.R] at W769
  have N769 := Fr.snoc X769 N759 g_b691
  have V769 := Arv.set Ar767 q767 S767 M767 H767 Gf767 (own_fC lu5.R) W769 5 rfl (Nat.le_of_ble_eq_true rfl)
  have V769' : Arv Z h769 b691 k691 .char (12 : Int32) [(.int u0), (.int u1), (.int u2), (.int u3), (.int u4), (.int u5), (.int 0), (.int 0), (.int 0), (.int 0), (.int 0), (.int 0)] (.int 0) := by simp only [List.set_cons_succ, List.set_cons_zero] at V769; exact V769
  have G770 : Go p e below A0 (T769.setTop (mkF m 65 #[.val (.ref a), .val (.int pp), .val (.int rr), .val (.ref b691)] [])) := fun tq kq => G766 tq (st769 _ kq)
  have G771 : Go p e below A0 (T769.setTop (mkF m 73 #[.val (.ref a), .val (.int pp), .val (.int rr), .val (.ref b691)] [(.int rr), (.int pp), (.int 6), (.ref a), (.int 6), (.ref b691)])) := fun tq kq => G770 tq (by
    refine XS.aloadN X769.here hx rfl (hb hby d23_65) rfl rfl ?_
    refine XS.bipush X769.here hx rfl (hb hby d23_66) ?_
    refine XS.aloadN X769.here hx rfl (hb hby d23_68) rfl rfl ?_
    refine XS.bipush X769.here hx rfl (hb hby d23_69) ?_
    refine XS.iloadN X769.here hx rfl (hb hby d23_71) rfl ?_
    refine XS.iloadN X769.here hx rfl (hb hby d23_72) rfl ?_
    exact kq)
  obtain ⟨u6, eu6⟩ : ∃ q, q = own_gv cf n_ (6 : Int32) pp rr := ⟨_, rfl⟩
  have lu6 := own_gvL eu6 hB hlr
  have f773 := (f760.wr W769)
  have f774 := (f761.other W769 (Or.inl (Nat.ne_of_lt lt_a_b691)))
  have f775 := (f762.other W769 (Or.inl (Nat.ne_of_lt lt_a_b691)))
  have f776 := (f763.other W769 (Nat.ne_of_lt lt_b_b691))
  have f777 := (Nat.le_trans f764 (Keep.of_wr W769).1)
  have f778 := (f765.wr W769 g_b691)
  obtain ⟨_, _, ⟨T772, L772, k772, n772⟩, -, X772, ⟨Lc772, hQ772, l772, y772, z772⟩, st772⟩ := Jvm.LawKit.callS X769 hx (y := (⟨"com/example/role_delegation/roledelegation/RevocationKindNamedPinLaw", "g", "(Ljava/lang/String;IIC)C"⟩ : MethodName)) hown (mvT hZ (wd hw 14 rfl)) (mvT hZ (wd hw 15 rfl)) (mvT hZ (wd hw 11 rfl)) (mvT hZ (wd hw 16 rfl)) (by decide) (backOf (W := 2) (rmG l Z a0 hw [] a b kb cf (6 : Int32) n_ pp rr u6 cs fo h769 n0 f777 f773 f774 f775 f776 hB hlr (by decide) eu6 hCS hcs hSF hfo f778) hZ (wd hw 16 rfl) (wd hw 11 rfl) (by decide) (by decide)) (g := (mkF m 73 #[.val (.ref a), .val (.int pp), .val (.int rr), .val (.ref b691)] [(.int rr), (.int pp), (.int 6), (.ref a), (.int 6), (.ref b691)])) rfl (by rw [hml]; rfl) (argsL := [(.ref a), (.int 6), (.int pp), (.int rr)]) (rest := [(.int 6), (.ref b691)]) (lenOf pd_11 rfl) rfl (by show 2 * 0 + _ ≤ _; exact Nat.le_of_eq rfl) (hb hby d23_73) (fun _ _ => ⟨rfl, e769, (by decide : 1 + 0 ≤ _), (by decide : 12 + 0 ≤ _)⟩)
  dsimp only [Pt.U, Pt.locs, Pt.cells, Pt.slots] at X772 l772 y772 z772 st772 hQ772
  obtain rfl : k772 = 1 := y772
  obtain rfl : n772 = 12 := z772
  obtain ⟨rfl, N772q, e772⟩ := hQ772
  have N772 : Fr n0 L772 := by rw [l772]; exact Fr.app N769 N772q
  have G779 : Go p e below A0 (T772.setTop (mkF m 76 #[.val (.ref a), .val (.int pp), .val (.int rr), .val (.ref b691)] [(.int u6), (.int 6), (.ref b691)])) := fun tq kq => G771 tq (st772 _ kq)
  obtain ⟨cl780, Ar780, q780, S780, M780, H780, Gf780⟩ := id V769'
  have hi781 : ¬ ((6 : Int32) < 0 ∨ cl780.slots.size ≤ ((6 : Int32)).toNatClampNeg) := (inb_of S780 ⟨by decide, by decide⟩)
  obtain ⟨T782, h782, X782, e782, W782, st782⟩ := stC X772 hx hZ e772 Ar780 (j := (6 : Int32)) hi781 (g := (mkF m 76 #[.val (.ref a), .val (.int pp), .val (.int rr), .val (.ref b691)] [(.int u6), (.int 6), (.ref b691)])) rfl rfl (hb hby d23_76)
  rw [show nar .char u6 = u6 from own_nC lu6.R] at W782
  have N782 := Fr.snoc X782 N772 g_b691
  have V782 := Arv.set Ar780 q780 S780 M780 H780 Gf780 (own_fC lu6.R) W782 6 rfl (Nat.le_of_ble_eq_true rfl)
  have V782' : Arv Z h782 b691 k691 .char (12 : Int32) [(.int u0), (.int u1), (.int u2), (.int u3), (.int u4), (.int u5), (.int u6), (.int 0), (.int 0), (.int 0), (.int 0), (.int 0)] (.int 0) := by simp only [List.set_cons_succ, List.set_cons_zero] at V782; exact V782
  have G783 : Go p e below A0 (T782.setTop (mkF m 77 #[.val (.ref a), .val (.int pp), .val (.int rr), .val (.ref b691)] [])) := fun tq kq => G779 tq (st782 _ kq)
  have G784 : Go p e below A0 (T782.setTop (mkF m 85 #[.val (.ref a), .val (.int pp), .val (.int rr), .val (.ref b691)] [(.int rr), (.int pp), (.int 7), (.ref a), (.int 7), (.ref b691)])) := fun tq kq => G783 tq (by
    refine XS.aloadN X782.here hx rfl (hb hby d23_77) rfl rfl ?_
    refine XS.bipush X782.here hx rfl (hb hby d23_78) ?_
    refine XS.aloadN X782.here hx rfl (hb hby d23_80) rfl rfl ?_
    refine XS.bipush X782.here hx rfl (hb hby d23_81) ?_
    refine XS.iloadN X782.here hx rfl (hb hby d23_83) rfl ?_
    refine XS.iloadN X782.here hx rfl (hb hby d23_84) rfl ?_
    exact kq)
  obtain ⟨u7, eu7⟩ : ∃ q, q = own_gv cf n_ (7 : Int32) pp rr := ⟨_, rfl⟩
  have lu7 := own_gvL eu7 hB hlr
  have f786 := (f773.wr W782)
  have f787 := (f774.other W782 (Or.inl (Nat.ne_of_lt lt_a_b691)))
  have f788 := (f775.other W782 (Or.inl (Nat.ne_of_lt lt_a_b691)))
  have f789 := (f776.other W782 (Nat.ne_of_lt lt_b_b691))
  have f790 := (Nat.le_trans f777 (Keep.of_wr W782).1)
  have f791 := (f778.wr W782 g_b691)
  obtain ⟨_, _, ⟨T785, L785, k785, n785⟩, -, X785, ⟨Lc785, hQ785, l785, y785, z785⟩, st785⟩ := Jvm.LawKit.callS X782 hx (y := (⟨"com/example/role_delegation/roledelegation/RevocationKindNamedPinLaw", "g", "(Ljava/lang/String;IIC)C"⟩ : MethodName)) hown (mvT hZ (wd hw 14 rfl)) (mvT hZ (wd hw 15 rfl)) (mvT hZ (wd hw 11 rfl)) (mvT hZ (wd hw 16 rfl)) (by decide) (backOf (W := 2) (rmG l Z a0 hw [] a b kb cf (7 : Int32) n_ pp rr u7 cs fo h782 n0 f790 f786 f787 f788 f789 hB hlr (by decide) eu7 hCS hcs hSF hfo f791) hZ (wd hw 16 rfl) (wd hw 11 rfl) (by decide) (by decide)) (g := (mkF m 85 #[.val (.ref a), .val (.int pp), .val (.int rr), .val (.ref b691)] [(.int rr), (.int pp), (.int 7), (.ref a), (.int 7), (.ref b691)])) rfl (by rw [hml]; rfl) (argsL := [(.ref a), (.int 7), (.int pp), (.int rr)]) (rest := [(.int 7), (.ref b691)]) (lenOf pd_11 rfl) rfl (by show 2 * 0 + _ ≤ _; exact Nat.le_of_eq rfl) (hb hby d23_85) (fun _ _ => ⟨rfl, e782, (by decide : 1 + 0 ≤ _), (by decide : 12 + 0 ≤ _)⟩)
  dsimp only [Pt.U, Pt.locs, Pt.cells, Pt.slots] at X785 l785 y785 z785 st785 hQ785
  obtain rfl : k785 = 1 := y785
  obtain rfl : n785 = 12 := z785
  obtain ⟨rfl, N785q, e785⟩ := hQ785
  have N785 : Fr n0 L785 := by rw [l785]; exact Fr.app N782 N785q
  have G792 : Go p e below A0 (T785.setTop (mkF m 88 #[.val (.ref a), .val (.int pp), .val (.int rr), .val (.ref b691)] [(.int u7), (.int 7), (.ref b691)])) := fun tq kq => G784 tq (st785 _ kq)
  obtain ⟨cl793, Ar793, q793, S793, M793, H793, Gf793⟩ := id V782'
  have hi794 : ¬ ((7 : Int32) < 0 ∨ cl793.slots.size ≤ ((7 : Int32)).toNatClampNeg) := (inb_of S793 ⟨by decide, by decide⟩)
  obtain ⟨T795, h795, X795, e795, W795, st795⟩ := stC X785 hx hZ e785 Ar793 (j := (7 : Int32)) hi794 (g := (mkF m 88 #[.val (.ref a), .val (.int pp), .val (.int rr), .val (.ref b691)] [(.int u7), (.int 7), (.ref b691)])) rfl rfl (hb hby d23_88)
  rw [show nar .char u7 = u7 from own_nC lu7.R] at W795
  have N795 := Fr.snoc X795 N785 g_b691
  have V795 := Arv.set Ar793 q793 S793 M793 H793 Gf793 (own_fC lu7.R) W795 7 rfl (Nat.le_of_ble_eq_true rfl)
  have V795' : Arv Z h795 b691 k691 .char (12 : Int32) [(.int u0), (.int u1), (.int u2), (.int u3), (.int u4), (.int u5), (.int u6), (.int u7), (.int 0), (.int 0), (.int 0), (.int 0)] (.int 0) := by simp only [List.set_cons_succ, List.set_cons_zero] at V795; exact V795
  have G796 : Go p e below A0 (T795.setTop (mkF m 89 #[.val (.ref a), .val (.int pp), .val (.int rr), .val (.ref b691)] [])) := fun tq kq => G792 tq (st795 _ kq)
  have G797 : Go p e below A0 (T795.setTop (mkF m 97 #[.val (.ref a), .val (.int pp), .val (.int rr), .val (.ref b691)] [(.int rr), (.int pp), (.int 8), (.ref a), (.int 8), (.ref b691)])) := fun tq kq => G796 tq (by
    refine XS.aloadN X795.here hx rfl (hb hby d23_89) rfl rfl ?_
    refine XS.bipush X795.here hx rfl (hb hby d23_90) ?_
    refine XS.aloadN X795.here hx rfl (hb hby d23_92) rfl rfl ?_
    refine XS.bipush X795.here hx rfl (hb hby d23_93) ?_
    refine XS.iloadN X795.here hx rfl (hb hby d23_95) rfl ?_
    refine XS.iloadN X795.here hx rfl (hb hby d23_96) rfl ?_
    exact kq)
  obtain ⟨u8, eu8⟩ : ∃ q, q = own_gv cf n_ (8 : Int32) pp rr := ⟨_, rfl⟩
  have lu8 := own_gvL eu8 hB hlr
  have f799 := (f786.wr W795)
  have f800 := (f787.other W795 (Or.inl (Nat.ne_of_lt lt_a_b691)))
  have f801 := (f788.other W795 (Or.inl (Nat.ne_of_lt lt_a_b691)))
  have f802 := (f789.other W795 (Nat.ne_of_lt lt_b_b691))
  have f803 := (Nat.le_trans f790 (Keep.of_wr W795).1)
  have f804 := (f791.wr W795 g_b691)
  obtain ⟨_, _, ⟨T798, L798, k798, n798⟩, -, X798, ⟨Lc798, hQ798, l798, y798, z798⟩, st798⟩ := Jvm.LawKit.callS X795 hx (y := (⟨"com/example/role_delegation/roledelegation/RevocationKindNamedPinLaw", "g", "(Ljava/lang/String;IIC)C"⟩ : MethodName)) hown (mvT hZ (wd hw 14 rfl)) (mvT hZ (wd hw 15 rfl)) (mvT hZ (wd hw 11 rfl)) (mvT hZ (wd hw 16 rfl)) (by decide) (backOf (W := 2) (rmG l Z a0 hw [] a b kb cf (8 : Int32) n_ pp rr u8 cs fo h795 n0 f803 f799 f800 f801 f802 hB hlr (by decide) eu8 hCS hcs hSF hfo f804) hZ (wd hw 16 rfl) (wd hw 11 rfl) (by decide) (by decide)) (g := (mkF m 97 #[.val (.ref a), .val (.int pp), .val (.int rr), .val (.ref b691)] [(.int rr), (.int pp), (.int 8), (.ref a), (.int 8), (.ref b691)])) rfl (by rw [hml]; rfl) (argsL := [(.ref a), (.int 8), (.int pp), (.int rr)]) (rest := [(.int 8), (.ref b691)]) (lenOf pd_11 rfl) rfl (by show 2 * 0 + _ ≤ _; exact Nat.le_of_eq rfl) (hb hby d23_97) (fun _ _ => ⟨rfl, e795, (by decide : 1 + 0 ≤ _), (by decide : 12 + 0 ≤ _)⟩)
  dsimp only [Pt.U, Pt.locs, Pt.cells, Pt.slots] at X798 l798 y798 z798 st798 hQ798
  obtain rfl : k798 = 1 := y798
  obtain rfl : n798 = 12 := z798
  obtain ⟨rfl, N798q, e798⟩ := hQ798
  have N798 : Fr n0 L798 := by rw [l798]; exact Fr.app N795 N798q
  have G805 : Go p e below A0 (T798.setTop (mkF m 100 #[.val (.ref a), .val (.int pp), .val (.int rr), .val (.ref b691)] [(.int u8), (.int 8), (.ref b691)])) := fun tq kq => G797 tq (st798 _ kq)
  obtain ⟨cl806, Ar806, q806, S806, M806, H806, Gf806⟩ := id V795'
  have hi807 : ¬ ((8 : Int32) < 0 ∨ cl806.slots.size ≤ ((8 : Int32)).toNatClampNeg) := (inb_of S806 ⟨by decide, by decide⟩)
  obtain ⟨T808, h808, X808, e808, W808, st808⟩ := stC X798 hx hZ e798 Ar806 (j := (8 : Int32)) hi807 (g := (mkF m 100 #[.val (.ref a), .val (.int pp), .val (.int rr), .val (.ref b691)] [(.int u8), (.int 8), (.ref b691)])) rfl rfl (hb hby d23_100)
  rw [show nar .char u8 = u8 from own_nC lu8.R] at W808
  have N808 := Fr.snoc X808 N798 g_b691
  have V808 := Arv.set Ar806 q806 S806 M806 H806 Gf806 (own_fC lu8.R) W808 8 rfl (Nat.le_of_ble_eq_true rfl)
  have V808' : Arv Z h808 b691 k691 .char (12 : Int32) [(.int u0), (.int u1), (.int u2), (.int u3), (.int u4), (.int u5), (.int u6), (.int u7), (.int u8), (.int 0), (.int 0), (.int 0)] (.int 0) := by simp only [List.set_cons_succ, List.set_cons_zero] at V808; exact V808
  have G809 : Go p e below A0 (T808.setTop (mkF m 101 #[.val (.ref a), .val (.int pp), .val (.int rr), .val (.ref b691)] [])) := fun tq kq => G805 tq (st808 _ kq)
  have G810 : Go p e below A0 (T808.setTop (mkF m 109 #[.val (.ref a), .val (.int pp), .val (.int rr), .val (.ref b691)] [(.int rr), (.int pp), (.int 9), (.ref a), (.int 9), (.ref b691)])) := fun tq kq => G809 tq (by
    refine XS.aloadN X808.here hx rfl (hb hby d23_101) rfl rfl ?_
    refine XS.bipush X808.here hx rfl (hb hby d23_102) ?_
    refine XS.aloadN X808.here hx rfl (hb hby d23_104) rfl rfl ?_
    refine XS.bipush X808.here hx rfl (hb hby d23_105) ?_
    refine XS.iloadN X808.here hx rfl (hb hby d23_107) rfl ?_
    refine XS.iloadN X808.here hx rfl (hb hby d23_108) rfl ?_
    exact kq)
  obtain ⟨u9, eu9⟩ : ∃ q, q = own_gv cf n_ (9 : Int32) pp rr := ⟨_, rfl⟩
  have lu9 := own_gvL eu9 hB hlr
  have f812 := (f799.wr W808)
  have f813 := (f800.other W808 (Or.inl (Nat.ne_of_lt lt_a_b691)))
  have f814 := (f801.other W808 (Or.inl (Nat.ne_of_lt lt_a_b691)))
  have f815 := (f802.other W808 (Nat.ne_of_lt lt_b_b691))
  have f816 := (Nat.le_trans f803 (Keep.of_wr W808).1)
  have f817 := (f804.wr W808 g_b691)
  obtain ⟨_, _, ⟨T811, L811, k811, n811⟩, -, X811, ⟨Lc811, hQ811, l811, y811, z811⟩, st811⟩ := Jvm.LawKit.callS X808 hx (y := (⟨"com/example/role_delegation/roledelegation/RevocationKindNamedPinLaw", "g", "(Ljava/lang/String;IIC)C"⟩ : MethodName)) hown (mvT hZ (wd hw 14 rfl)) (mvT hZ (wd hw 15 rfl)) (mvT hZ (wd hw 11 rfl)) (mvT hZ (wd hw 16 rfl)) (by decide) (backOf (W := 2) (rmG l Z a0 hw [] a b kb cf (9 : Int32) n_ pp rr u9 cs fo h808 n0 f816 f812 f813 f814 f815 hB hlr (by decide) eu9 hCS hcs hSF hfo f817) hZ (wd hw 16 rfl) (wd hw 11 rfl) (by decide) (by decide)) (g := (mkF m 109 #[.val (.ref a), .val (.int pp), .val (.int rr), .val (.ref b691)] [(.int rr), (.int pp), (.int 9), (.ref a), (.int 9), (.ref b691)])) rfl (by rw [hml]; rfl) (argsL := [(.ref a), (.int 9), (.int pp), (.int rr)]) (rest := [(.int 9), (.ref b691)]) (lenOf pd_11 rfl) rfl (by show 2 * 0 + _ ≤ _; exact Nat.le_of_eq rfl) (hb hby d23_109) (fun _ _ => ⟨rfl, e808, (by decide : 1 + 0 ≤ _), (by decide : 12 + 0 ≤ _)⟩)
  dsimp only [Pt.U, Pt.locs, Pt.cells, Pt.slots] at X811 l811 y811 z811 st811 hQ811
  obtain rfl : k811 = 1 := y811
  obtain rfl : n811 = 12 := z811
  obtain ⟨rfl, N811q, e811⟩ := hQ811
  have N811 : Fr n0 L811 := by rw [l811]; exact Fr.app N808 N811q
  have G818 : Go p e below A0 (T811.setTop (mkF m 112 #[.val (.ref a), .val (.int pp), .val (.int rr), .val (.ref b691)] [(.int u9), (.int 9), (.ref b691)])) := fun tq kq => G810 tq (st811 _ kq)
  obtain ⟨cl819, Ar819, q819, S819, M819, H819, Gf819⟩ := id V808'
  have hi820 : ¬ ((9 : Int32) < 0 ∨ cl819.slots.size ≤ ((9 : Int32)).toNatClampNeg) := (inb_of S819 ⟨by decide, by decide⟩)
  obtain ⟨T821, h821, X821, e821, W821, st821⟩ := stC X811 hx hZ e811 Ar819 (j := (9 : Int32)) hi820 (g := (mkF m 112 #[.val (.ref a), .val (.int pp), .val (.int rr), .val (.ref b691)] [(.int u9), (.int 9), (.ref b691)])) rfl rfl (hb hby d23_112)
  rw [show nar .char u9 = u9 from own_nC lu9.R] at W821
  have N821 := Fr.snoc X821 N811 g_b691
  have V821 := Arv.set Ar819 q819 S819 M819 H819 Gf819 (own_fC lu9.R) W821 9 rfl (Nat.le_of_ble_eq_true rfl)
  have V821' : Arv Z h821 b691 k691 .char (12 : Int32) [(.int u0), (.int u1), (.int u2), (.int u3), (.int u4), (.int u5), (.int u6), (.int u7), (.int u8), (.int u9), (.int 0), (.int 0)] (.int 0) := by simp only [List.set_cons_succ, List.set_cons_zero] at V821; exact V821
  have G822 : Go p e below A0 (T821.setTop (mkF m 113 #[.val (.ref a), .val (.int pp), .val (.int rr), .val (.ref b691)] [])) := fun tq kq => G818 tq (st821 _ kq)
  have G823 : Go p e below A0 (T821.setTop (mkF m 121 #[.val (.ref a), .val (.int pp), .val (.int rr), .val (.ref b691)] [(.int rr), (.int pp), (.int 10), (.ref a), (.int 10), (.ref b691)])) := fun tq kq => G822 tq (by
    refine XS.aloadN X821.here hx rfl (hb hby d23_113) rfl rfl ?_
    refine XS.bipush X821.here hx rfl (hb hby d23_114) ?_
    refine XS.aloadN X821.here hx rfl (hb hby d23_116) rfl rfl ?_
    refine XS.bipush X821.here hx rfl (hb hby d23_117) ?_
    refine XS.iloadN X821.here hx rfl (hb hby d23_119) rfl ?_
    refine XS.iloadN X821.here hx rfl (hb hby d23_120) rfl ?_
    exact kq)
  obtain ⟨u10, eu10⟩ : ∃ q, q = own_gv cf n_ (10 : Int32) pp rr := ⟨_, rfl⟩
  have lu10 := own_gvL eu10 hB hlr
  have f825 := (f812.wr W821)
  have f826 := (f813.other W821 (Or.inl (Nat.ne_of_lt lt_a_b691)))
  have f827 := (f814.other W821 (Or.inl (Nat.ne_of_lt lt_a_b691)))
  have f828 := (f815.other W821 (Nat.ne_of_lt lt_b_b691))
  have f829 := (Nat.le_trans f816 (Keep.of_wr W821).1)
  have f830 := (f817.wr W821 g_b691)
  obtain ⟨_, _, ⟨T824, L824, k824, n824⟩, -, X824, ⟨Lc824, hQ824, l824, y824, z824⟩, st824⟩ := Jvm.LawKit.callS X821 hx (y := (⟨"com/example/role_delegation/roledelegation/RevocationKindNamedPinLaw", "g", "(Ljava/lang/String;IIC)C"⟩ : MethodName)) hown (mvT hZ (wd hw 14 rfl)) (mvT hZ (wd hw 15 rfl)) (mvT hZ (wd hw 11 rfl)) (mvT hZ (wd hw 16 rfl)) (by decide) (backOf (W := 2) (rmG l Z a0 hw [] a b kb cf (10 : Int32) n_ pp rr u10 cs fo h821 n0 f829 f825 f826 f827 f828 hB hlr (by decide) eu10 hCS hcs hSF hfo f830) hZ (wd hw 16 rfl) (wd hw 11 rfl) (by decide) (by decide)) (g := (mkF m 121 #[.val (.ref a), .val (.int pp), .val (.int rr), .val (.ref b691)] [(.int rr), (.int pp), (.int 10), (.ref a), (.int 10), (.ref b691)])) rfl (by rw [hml]; rfl) (argsL := [(.ref a), (.int 10), (.int pp), (.int rr)]) (rest := [(.int 10), (.ref b691)]) (lenOf pd_11 rfl) rfl (by show 2 * 0 + _ ≤ _; exact Nat.le_of_eq rfl) (hb hby d23_121) (fun _ _ => ⟨rfl, e821, (by decide : 1 + 0 ≤ _), (by decide : 12 + 0 ≤ _)⟩)
  dsimp only [Pt.U, Pt.locs, Pt.cells, Pt.slots] at X824 l824 y824 z824 st824 hQ824
  obtain rfl : k824 = 1 := y824
  obtain rfl : n824 = 12 := z824
  obtain ⟨rfl, N824q, e824⟩ := hQ824
  have N824 : Fr n0 L824 := by rw [l824]; exact Fr.app N821 N824q
  have G831 : Go p e below A0 (T824.setTop (mkF m 124 #[.val (.ref a), .val (.int pp), .val (.int rr), .val (.ref b691)] [(.int u10), (.int 10), (.ref b691)])) := fun tq kq => G823 tq (st824 _ kq)
  obtain ⟨cl832, Ar832, q832, S832, M832, H832, Gf832⟩ := id V821'
  have hi833 : ¬ ((10 : Int32) < 0 ∨ cl832.slots.size ≤ ((10 : Int32)).toNatClampNeg) := (inb_of S832 ⟨by decide, by decide⟩)
  obtain ⟨T834, h834, X834, e834, W834, st834⟩ := stC X824 hx hZ e824 Ar832 (j := (10 : Int32)) hi833 (g := (mkF m 124 #[.val (.ref a), .val (.int pp), .val (.int rr), .val (.ref b691)] [(.int u10), (.int 10), (.ref b691)])) rfl rfl (hb hby d23_124)
  rw [show nar .char u10 = u10 from own_nC lu10.R] at W834
  have N834 := Fr.snoc X834 N824 g_b691
  have V834 := Arv.set Ar832 q832 S832 M832 H832 Gf832 (own_fC lu10.R) W834 10 rfl (Nat.le_of_ble_eq_true rfl)
  have V834' : Arv Z h834 b691 k691 .char (12 : Int32) [(.int u0), (.int u1), (.int u2), (.int u3), (.int u4), (.int u5), (.int u6), (.int u7), (.int u8), (.int u9), (.int u10), (.int 0)] (.int 0) := by simp only [List.set_cons_succ, List.set_cons_zero] at V834; exact V834
  have G835 : Go p e below A0 (T834.setTop (mkF m 125 #[.val (.ref a), .val (.int pp), .val (.int rr), .val (.ref b691)] [])) := fun tq kq => G831 tq (st834 _ kq)
  have G836 : Go p e below A0 (T834.setTop (mkF m 133 #[.val (.ref a), .val (.int pp), .val (.int rr), .val (.ref b691)] [(.int rr), (.int pp), (.int 11), (.ref a), (.int 11), (.ref b691)])) := fun tq kq => G835 tq (by
    refine XS.aloadN X834.here hx rfl (hb hby d23_125) rfl rfl ?_
    refine XS.bipush X834.here hx rfl (hb hby d23_126) ?_
    refine XS.aloadN X834.here hx rfl (hb hby d23_128) rfl rfl ?_
    refine XS.bipush X834.here hx rfl (hb hby d23_129) ?_
    refine XS.iloadN X834.here hx rfl (hb hby d23_131) rfl ?_
    refine XS.iloadN X834.here hx rfl (hb hby d23_132) rfl ?_
    exact kq)
  obtain ⟨u11, eu11⟩ : ∃ q, q = own_gv cf n_ (11 : Int32) pp rr := ⟨_, rfl⟩
  have lu11 := own_gvL eu11 hB hlr
  have f838 := (f825.wr W834)
  have f839 := (f826.other W834 (Or.inl (Nat.ne_of_lt lt_a_b691)))
  have f840 := (f827.other W834 (Or.inl (Nat.ne_of_lt lt_a_b691)))
  have f841 := (f828.other W834 (Nat.ne_of_lt lt_b_b691))
  have f842 := (Nat.le_trans f829 (Keep.of_wr W834).1)
  have f843 := (f830.wr W834 g_b691)
  obtain ⟨_, _, ⟨T837, L837, k837, n837⟩, -, X837, ⟨Lc837, hQ837, l837, y837, z837⟩, st837⟩ := Jvm.LawKit.callS X834 hx (y := (⟨"com/example/role_delegation/roledelegation/RevocationKindNamedPinLaw", "g", "(Ljava/lang/String;IIC)C"⟩ : MethodName)) hown (mvT hZ (wd hw 14 rfl)) (mvT hZ (wd hw 15 rfl)) (mvT hZ (wd hw 11 rfl)) (mvT hZ (wd hw 16 rfl)) (by decide) (backOf (W := 2) (rmG l Z a0 hw [] a b kb cf (11 : Int32) n_ pp rr u11 cs fo h834 n0 f842 f838 f839 f840 f841 hB hlr (by decide) eu11 hCS hcs hSF hfo f843) hZ (wd hw 16 rfl) (wd hw 11 rfl) (by decide) (by decide)) (g := (mkF m 133 #[.val (.ref a), .val (.int pp), .val (.int rr), .val (.ref b691)] [(.int rr), (.int pp), (.int 11), (.ref a), (.int 11), (.ref b691)])) rfl (by rw [hml]; rfl) (argsL := [(.ref a), (.int 11), (.int pp), (.int rr)]) (rest := [(.int 11), (.ref b691)]) (lenOf pd_11 rfl) rfl (by show 2 * 0 + _ ≤ _; exact Nat.le_of_eq rfl) (hb hby d23_133) (fun _ _ => ⟨rfl, e834, (by decide : 1 + 0 ≤ _), (by decide : 12 + 0 ≤ _)⟩)
  dsimp only [Pt.U, Pt.locs, Pt.cells, Pt.slots] at X837 l837 y837 z837 st837 hQ837
  obtain rfl : k837 = 1 := y837
  obtain rfl : n837 = 12 := z837
  obtain ⟨rfl, N837q, e837⟩ := hQ837
  have N837 : Fr n0 L837 := by rw [l837]; exact Fr.app N834 N837q
  have G844 : Go p e below A0 (T837.setTop (mkF m 136 #[.val (.ref a), .val (.int pp), .val (.int rr), .val (.ref b691)] [(.int u11), (.int 11), (.ref b691)])) := fun tq kq => G836 tq (st837 _ kq)
  obtain ⟨cl845, Ar845, q845, S845, M845, H845, Gf845⟩ := id V834'
  have hi846 : ¬ ((11 : Int32) < 0 ∨ cl845.slots.size ≤ ((11 : Int32)).toNatClampNeg) := (inb_of S845 ⟨by decide, by decide⟩)
  obtain ⟨T847, h847, X847, e847, W847, st847⟩ := stC X837 hx hZ e837 Ar845 (j := (11 : Int32)) hi846 (g := (mkF m 136 #[.val (.ref a), .val (.int pp), .val (.int rr), .val (.ref b691)] [(.int u11), (.int 11), (.ref b691)])) rfl rfl (hb hby d23_136)
  rw [show nar .char u11 = u11 from own_nC lu11.R] at W847
  have N847 := Fr.snoc X847 N837 g_b691
  have V847 := Arv.set Ar845 q845 S845 M845 H845 Gf845 (own_fC lu11.R) W847 11 rfl (Nat.le_of_ble_eq_true rfl)
  have V847' : Arv Z h847 b691 k691 .char (12 : Int32) [(.int u0), (.int u1), (.int u2), (.int u3), (.int u4), (.int u5), (.int u6), (.int u7), (.int u8), (.int u9), (.int u10), (.int u11)] (.int 0) := by simp only [List.set_cons_succ, List.set_cons_zero] at V847; exact V847
  have G848 : Go p e below A0 (T847.setTop (mkF m 137 #[.val (.ref a), .val (.int pp), .val (.int rr), .val (.ref b691)] [])) := fun tq kq => G844 tq (st847 _ kq)
  have f850 := (Nat.le_trans f842 (Keep.of_wr W847).1)
  obtain ⟨T849, h849, X849, e849, E849, A849, D849, -, st849⟩ := newO X847 hx hZ hown (wd hw 52 rfl) (wd hw 3 rfl) (wd hw 2 rfl) e847 (g := (mkF m 137 #[.val (.ref a), .val (.int pp), .val (.int rr), .val (.ref b691)] [])) rfl (hb hby d23_137) (by decide) (by decide)
  obtain ⟨b849, g849⟩ : ∃ z, z = h847.size := ⟨_, rfl⟩
  rw [← g849] at A849 D849 st849
  have f851 := (Nat.le_trans (Nat.le_trans (Nat.le_trans (Nat.le_trans (Nat.le_trans (Nat.le_trans (Nat.le_trans (Nat.le_trans (Nat.le_trans (Nat.le_trans (Nat.le_trans (Nat.le_trans (Nat.le_trans (Nat.le_refl h0.size) E691.1) (Keep.of_wr W704).1) (Keep.of_wr W717).1) (Keep.of_wr W730).1) (Keep.of_wr W743).1) (Keep.of_wr W756).1) (Keep.of_wr W769).1) (Keep.of_wr W782).1) (Keep.of_wr W795).1) (Keep.of_wr W808).1) (Keep.of_wr W821).1) (Keep.of_wr W834).1) (Keep.of_wr W847).1)
  have sz_b849 : h0.size ≤ b849 := Nat.le_trans f851 (Nat.le_of_eq g849.symm)
  have g_b849 : n0 ≤ b849 := Nat.le_trans f850 (Nat.le_of_eq g849.symm)
  have lt_a_b849 : a < b849 := Nat.lt_of_lt_of_le (f838.wr W847).lt (Nat.le_of_eq g849.symm)
  have lt_b_b849 : b < b849 := Nat.lt_of_lt_of_le (f841.other W847 (Nat.ne_of_lt lt_b_b691)).lt (Nat.le_of_eq g849.symm)
  have lt_b691_b849 : b691 < b849 := Nat.lt_of_lt_of_le V847'.lt (Nat.le_of_eq g849.symm)
  have F849_value : Fld Z h849 b849 "java/lang/String" "value" "[B" .null := D849 (Or.inr (wd hw 5 rfl)) (ty := (.array .byte)) (by decide)
  have F849_coder : Fld Z h849 b849 "java/lang/String" "coder" "B" (.int 0) := D849 (Or.inr (wd hw 6 rfl)) (ty := .byte) (by decide)
  have G852 : Go p e below A0 (T849.setTop (mkF m 140 #[.val (.ref a), .val (.int pp), .val (.int rr), .val (.ref b691)] [(.ref b849)])) := fun tq kq => G848 tq (st849 _ kq)
  have G853 : Go p e below A0 (T849.setTop (mkF m 142 #[.val (.ref a), .val (.int pp), .val (.int rr), .val (.ref b691)] [(.ref b691), (.ref b849), (.ref b849)])) := fun tq kq => G852 tq (by
    refine XS.dup X849.here hx rfl (hb hby d23_140) rfl rfl ?_
    refine XS.aloadN X849.here hx rfl (hb hby d23_141) rfl rfl ?_
    exact kq)
  have f855 := (Nat.le_trans f850 E849.1)
  have f856 := (V847'.ext E849)
  have f857 := ((f843.wr W847 g_b691).ext E849)
  obtain ⟨_, _, ⟨T854, L854, k854, n854⟩, -, X854, ⟨Lc854, hQ854, l854, y854, z854⟩, st854⟩ := X849.specialBack hx (y := (⟨"java/lang/String", "<init>", "([C)V"⟩ : MethodName)) rfl hown (mvT hZ (wd hw 53 rfl)) (mvT hZ (wd hw 54 rfl)) (mvT hZ (wd hw 55 rfl)) (by decide) (backOf (W := 1) (rmH l Z a0 hw [] b849 b691 k691 (own_gw cf n_ pp rr) (12 : Int32) cs fo h849 n0 f855 A849 g_b849 F849_value F849_coder ((Af.of f856).fn (own_cT12 u0 u1 u2 u3 u4 u5 u6 u7 u8 u9 u10 u11 (own_gw cf n_ pp rr) eu0 eu1 eu2 eu3 eu4 eu5 eu6 eu7 eu8 eu9 eu10 eu11)) (Nat.ne_of_lt lt_b691_b849) (fun j => own_gvL rfl hB hlr) (by decide) hCS hcs hSF hfo f857) hZ (wd hw 55 rfl) (wd hw 2 rfl) (by decide) (by decide)) (g := (mkF m 142 #[.val (.ref a), .val (.int pp), .val (.int rr), .val (.ref b691)] [(.ref b691), (.ref b849), (.ref b849)])) rfl (by rw [hml]; rfl) (Steps.refl _) (a := b849) (argsL := [(.ref b691)]) (rest := [(.ref b849)]) (lenOf pd_12 rfl) rfl (by show 2 * 0 + _ ≤ _; exact Nat.le_of_eq rfl) (hb hby d23_142) (fun _ _ => ⟨rfl, e849, (by decide : 2 + 1 ≤ _), (by decide : 16 + 12 ≤ _)⟩)
  dsimp only [Pt.U, Pt.locs, Pt.cells, Pt.slots] at X854 l854 y854 z854 st854 hQ854
  obtain rfl : k854 = 3 := y854
  obtain rfl : n854 = 28 := z854
  obtain ⟨rfl, N854q, K854, bb854, kk854, Fv854, Fc854, Ab854⟩ := hQ854
  have N854 : Fr n0 L854 := by rw [l854]; exact Fr.app N847 N854q
  have G858 : Go p e below A0 (T854.setTop (mkF m 145 #[.val (.ref a), .val (.int pp), .val (.int rr), .val (.ref b691)] [(.ref b849)])) := fun tq kq => G853 tq (st854.trans kq)
  have f859 := (A849.keep K854)
  obtain ⟨fs, hr, hrun, hended, hW, hsame⟩ := X854.leave (v := some (.ref b849)) (fun h => by rw [Bd.returns] at h; cases h)
  refine ⟨_, _, (by rw [← hA0]; exact G858 _ (retOut X854 hx (t := (.object "java/lang/String")) Bd.returns rfl (Or.inr (Or.inr (Or.inr (Or.inr ⟨rfl, rfl, rfl⟩)))) (hb hby d23_145) hr)), hrun, hended, _, _, rfl, ?_, ⟨_, rfl⟩, hW, hsame.mono (by decide) (by decide)⟩
  show Qw Z (12 : Int32) (own_gw cf n_ pp rr) h0 n0 _ T854.heap _
  exact ⟨b849, bb854, kk854, rfl, N854, ((((((((((((((((Keep.refl h0 []).ext E691).wr W704 (Or.inr sz_b691)).wr W717 (Or.inr sz_b691)).wr W730 (Or.inr sz_b691)).wr W743 (Or.inr sz_b691)).wr W756 (Or.inr sz_b691)).wr W769 (Or.inr sz_b691)).wr W782 (Or.inr sz_b691)).wr W795 (Or.inr sz_b691)).wr W808 (Or.inr sz_b691)).wr W821 (Or.inr sz_b691)).wr W834 (Or.inr sz_b691)).wr W847 (Or.inr sz_b691)).ext E849).trans K854 (allS (P := fun x => x ∈ [] ∨ h0.size ≤ x) (Or.inr sz_b849) all0)), g_b849, f859, Fv854, Fc854, Ab854⟩
set_option maxRecDepth 65536 in
set_option maxHeartbeats 40000000 in
theorem rmCE (l : Launch) (Z : State) (a0 : Array Value) (hw : ∀ d ∈ tables_1, d.before a0 Z = true) (ws : List Jvm.Cond) (uc : Int32) (h0 : Heap) (n0 : Nat) (Z0 : n0 ≤ h0.size) (luc : own_L uc) :
    MetFree l (⟨"java/lang/StringLatin1", "canEncode", "(C)Z"⟩ : MethodName) (head1 (Jvm.Cond.code (⟨"java/lang/StringLatin1", "canEncode", "(C)Z"⟩ : MethodName) jdk_43_method_3_code 1 (some .boolean) :: ws) (Rm 0 0 0 0)) (fun aa UU => aa = #[(.int uc)] ∧ Z.Warmed39 UU.vm ∧ UU.heap = h0) (fun _ _ _ _ _ => True) (fun _ UU oo U' => ∃ v L, oo = .returned v ∧ Qr (.int 1) h0 n0 v U'.heap L ∧ FrameEnd UU oo U' L (Rm 0 0 0 0).cells (Rm 0 0 0 0).slots) := by
  refine MetFree.of_bodySF (plainFor_of_name pn_2) hisR ?_
  intro p e s m args below meth c s₁ Bd hml0 hP hK
  obtain ⟨rfl, hZ, hh⟩ := hP
  have hx := Bd.exec
  have hby := Bd.bytes
  have hml : c.maxLocals = 1 := hml0
  have hown : s.vm.findClass "java/lang/StringLatin1" = some m.cls := findClass_of_methodNamed Bd.named
  have hnm := (name_of_methodNamed Bd.named Bd.method).1
  have X0 : Stand p l e (Rm 0 0 0 0) s m #[(.int uc)] below meth c s₁ [] 0 0 := Stand.of_body Bd
  have e0 : s₁.heap = h0 := by rw [← hh, Bd.state]; rfl
  have N0 := Fr.nil n0
  obtain ⟨A0, hA0⟩ : ∃ A, A = s₁.setTop (entryFrame m #[(.int uc)] 1) := ⟨_, rfl⟩
  have G0 : Go p e below A0 (s₁.setTop (mkF m 0 #[.val (.int uc)] [])) := fun tq kq => by rw [hA0]; exact castTop (ef_rmCE m uc) kq
  have G860 : Go p e below A0 (s₁.setTop (mkF m 12 #[.val (.int uc)] [(.int 1)])) := fun tq kq => G0 tq (by
    refine XS.iloadN X0.here hx rfl (hb hby d25_0) rfl ?_
    refine XS.sipush X0.here hx rfl (hb hby d25_1) ?_
    refine XS.icmpNo X0.here hx rfl (hb hby d25_4) rfl (flt luc.l).2.2.1 ?_
    refine XS.iconst X0.here hx rfl (hb hby d25_7) ?_
    refine XS.goto X0.here hx rfl (pc0 := 8) (pc' := 12) rfl (hb hby d25_8) (by decide) (by decide) ?_
    exact kq)
  obtain ⟨fs, hr, hrun, hended, hW, hsame⟩ := X0.leave (v := some (.int (nar .boolean (1 : Int32)))) (fun h => by rw [Bd.returns] at h; cases h)
  refine ⟨_, _, (by rw [← hA0]; exact G860 _ (retN X0 hx (t := .boolean) Bd.returns (by simp) (hb hby d25_12) hr)), hrun, hended, _, _, rfl, ?_, ⟨_, rfl⟩, hW, hsame.mono (by decide) (by decide)⟩
  exact ⟨rfl, N0, e0⟩
set_option maxRecDepth 65536 in
set_option maxHeartbeats 40000000 in
theorem rmTC (l : Launch) (Z : State) (a0 : Array Value) (hw : ∀ d ∈ tables_1, d.before a0 Z = true) (ws : List Jvm.Cond) (uc : Int32) (h0 : Heap) (n0 : Nat) (Z0 : n0 ≤ h0.size) :
    MetFree l (⟨"java/lang/StringLatin1", "toBytes", "(C)[B"⟩ : MethodName) (head1 (Jvm.Cond.code (⟨"java/lang/StringLatin1", "toBytes", "(C)[B"⟩ : MethodName) jdk_43_method_46_code 1 (some (.array .byte)) :: ws) (Rm 0 1 1 0)) (fun aa UU => aa = #[(.int uc)] ∧ Z.Warmed39 UU.vm ∧ UU.heap = h0) (fun _ _ _ _ _ => True) (fun _ UU oo U' => ∃ v L, oo = .returned v ∧ Qcp Z (fun _ => uc) (1 : Int32) h0 n0 v U'.heap L ∧ FrameEnd UU oo U' L (Rm 0 1 1 0).cells (Rm 0 1 1 0).slots) := by
  refine MetFree.of_bodySF (plainFor_of_name pn_2) hisR ?_
  intro p e s m args below meth c s₁ Bd hml0 hP hK
  obtain ⟨rfl, hZ, hh⟩ := hP
  have hx := Bd.exec
  have hby := Bd.bytes
  have hml : c.maxLocals = 1 := hml0
  have hown : s.vm.findClass "java/lang/StringLatin1" = some m.cls := findClass_of_methodNamed Bd.named
  have hnm := (name_of_methodNamed Bd.named Bd.method).1
  have X0 : Stand p l e (Rm 0 1 1 0) s m #[(.int uc)] below meth c s₁ [] 0 0 := Stand.of_body Bd
  have e0 : s₁.heap = h0 := by rw [← hh, Bd.state]; rfl
  have N0 := Fr.nil n0
  obtain ⟨A0, hA0⟩ : ∃ A, A = s₁.setTop (entryFrame m #[(.int uc)] 1) := ⟨_, rfl⟩
  have G0 : Go p e below A0 (s₁.setTop (mkF m 0 #[.val (.int uc)] [])) := fun tq kq => by rw [hA0]; exact castTop (ef_rmTC m uc) kq
  have G861 : Go p e below A0 (s₁.setTop (mkF m 1 #[.val (.int uc)] [(.int 1)])) := fun tq kq => G0 tq (by
    refine XS.iconst X0.here hx rfl (hb hby d26_0) ?_
    exact kq)
  obtain ⟨T862, h862, k862, X862, e862, E862, A862, st862⟩ := newP X0 hx hZ (wd hw 4 rfl) e0 (g := (mkF m 1 #[.val (.int uc)] [(.int 1)])) rfl (hb hby d26_1) rfl (by decide) (cap := 1) (by decide) (by decide) (by decide) (by decide)
  obtain ⟨b862, g862⟩ : ∃ z, z = h0.size := ⟨_, rfl⟩
  rw [← g862] at A862 st862
  have sz_b862 : h0.size ≤ b862 := Nat.le_trans (Nat.le_refl h0.size) (Nat.le_of_eq g862.symm)
  have g_b862 : n0 ≤ b862 := Nat.le_trans Z0 (Nat.le_of_eq g862.symm)
  have V862 : Arv Z h862 b862 k862 .byte (1 : Int32) [(.int 0)] (.int 0) := (Arv.new A862 (by decide)).pad (pad_rep [] (.int 0) 1)
  have G863 : Go p e below A0 (T862.setTop (mkF m 3 #[.val (.int uc)] [(.ref b862)])) := fun tq kq => G861 tq (st862 _ kq)
  have G864 : Go p e below A0 (T862.setTop (mkF m 7 #[.val (.int uc)] [(.int (own_by uc)), (.int 0), (.ref b862), (.ref b862)])) := fun tq kq => G863 tq (by
    refine XS.dup X862.here hx rfl (hb hby d26_3) rfl rfl ?_
    refine XS.iconst X862.here hx rfl (hb hby d26_4) ?_
    refine XS.iloadN X862.here hx rfl (hb hby d26_5) rfl ?_
    refine XS.i2b X862.here hx rfl (hb hby d26_6) rfl ?_
    show Steps p.tables e below (T862.setTop (mkF m 7 #[.val (.int uc)] [(.int uc.toInt8.toInt32), (.int 0), (.ref b862), (.ref b862)])) _
    rw [show uc.toInt8.toInt32 = (own_by uc) from rfl]
    show Steps p.tables e below (T862.setTop (mkF m 7 #[.val (.int uc)] [(.int (own_by uc)), (.int 0), (.ref b862), (.ref b862)])) _
    exact kq)
  obtain ⟨cl865, Ar865, q865, S865, M865, H865, Gf865⟩ := id V862
  have hi866 : ¬ ((0 : Int32) < 0 ∨ cl865.slots.size ≤ ((0 : Int32)).toNatClampNeg) := (inb_of S865 ⟨by decide, by decide⟩)
  obtain ⟨T867, h867, X867, e867, W867, st867⟩ := stB X862 hx hZ e862 Ar865 (j := (0 : Int32)) hi866 (g := (mkF m 7 #[.val (.int uc)] [(.int (own_by uc)), (.int 0), (.ref b862), (.ref b862)])) rfl rfl (hb hby d26_7)
  rw [show nar .byte (own_by uc) = (own_by uc) from own_byN _] at W867
  have N867 := Fr.snoc X867 N0 g_b862
  have V867 := Arv.set Ar865 q865 S865 M865 H865 Gf865 (own_byF _) W867 0 rfl (Nat.le_of_ble_eq_true rfl)
  have V867' : Arv Z h867 b862 k862 .byte (1 : Int32) [(.int (own_by uc))] (.int 0) := by exact V867
  have G868 : Go p e below A0 (T867.setTop (mkF m 8 #[.val (.int uc)] [(.ref b862)])) := fun tq kq => G864 tq (st867 _ kq)
  obtain ⟨fs, hr, hrun, hended, hW, hsame⟩ := X867.leave (v := some (.ref b862)) (fun h => by rw [Bd.returns] at h; cases h)
  refine ⟨_, _, (by rw [← hA0]; exact G868 _ (retOut X867 hx (t := (.array .byte)) Bd.returns rfl (Or.inr (Or.inr (Or.inr (Or.inr ⟨rfl, rfl, rfl⟩)))) (hb hby d26_8) hr)), hrun, hended, _, _, rfl, ?_, ⟨_, rfl⟩, hW, hsame.mono (by decide) (by decide)⟩
  show Qcp Z (fun _ => uc) (1 : Int32) h0 n0 _ T867.heap _
  rw [e867]
  exact ⟨b862, k862, rfl, N867, (((Keep.refl h0 []).ext E862).wr W867 (Or.inr sz_b862)), sz_b862, g_b862, ((Af.of V867').fn (own_cW1 uc (fun _ => uc) rfl))⟩
def Qbb (Z : State) (a b : Addr) (h0 : Heap) (n0 : Nat) (v : Option Value) (h : Heap) (L : List Loc) : Prop := v = none ∧ Fr n0 L ∧ Keep h0 h [a] ∧ Fld Z h a "java/lang/String" "value" "[B" (.ref b) ∧ Fld Z h a "java/lang/String" "coder" "B" (.int 0)
set_option maxRecDepth 65536 in
set_option maxHeartbeats 40000000 in
theorem rmBB (l : Launch) (Z : State) (a0 : Array Value) (hw : ∀ d ∈ tables_1, d.before a0 Z = true) (ws : List Jvm.Cond) (a b : Addr) (cs : Int32) (fo : Value) (h0 : Heap) (n0 : Nat) (Z0 : n0 ≤ h0.size) (E : Exa Z h0 a "java/lang/String") (ga : n0 ≤ a) (Fv0 : Fld Z h0 a "java/lang/String" "value" "[B" .null) (Fc0 : Fld Z h0 a "java/lang/String" "coder" "B" (.int 0)) (hCS : Sta Z Z.heap "java/lang/String" "COMPACT_STRINGS" "Z" (.int cs)) (hcs : ¬ cs = (0 : Int32)) (hSF : Sta Z Z.heap "jdk/internal/util/Preconditions" "SIOOBE_FORMATTER" "Ljava/util/function/BiFunction;" fo) (hfo : fo.isRef = true) (hold : Old Z n0 h0) :
    MetFree l (⟨"java/lang/String", "<init>", "([BB)V"⟩ : MethodName) (head1 (Jvm.Cond.code (⟨"java/lang/String", "<init>", "([BB)V"⟩ : MethodName) jdk_42_method_151_code 3 none :: ws) (Rm 1 0 0 12)) (fun aa UU => aa = #[(.ref a), (.ref b), (.int 0)] ∧ Z.Warmed39 UU.vm ∧ UU.heap = h0) (fun _ _ _ _ _ => True) (fun _ UU oo U' => ∃ v L, oo = .returned v ∧ Qbb Z a b h0 n0 v U'.heap L ∧ FrameEnd UU oo U' L (Rm 1 0 0 12).cells (Rm 1 0 0 12).slots) := by
  refine MetFree.of_bodySF (plainFor_of_name pn_1) hisR ?_
  intro p e s m args below meth c s₁ Bd hml0 hP hK
  obtain ⟨rfl, hZ, hh⟩ := hP
  have hx := Bd.exec
  have hby := Bd.bytes
  have hml : c.maxLocals = 3 := hml0
  have hown : s.vm.findClass "java/lang/String" = some m.cls := findClass_of_methodNamed Bd.named
  have hnm := (name_of_methodNamed Bd.named Bd.method).1
  have X0 : Stand p l e (Rm 1 0 0 12) s m #[(.ref a), (.ref b), (.int 0)] below meth c s₁ [] 0 0 := Stand.of_body Bd
  have e0 : s₁.heap = h0 := by rw [← hh, Bd.state]; rfl
  have N0 := Fr.nil n0
  obtain ⟨A0, hA0⟩ : ∃ A, A = s₁.setTop (entryFrame m #[(.ref a), (.ref b), (.int 0)] 3) := ⟨_, rfl⟩
  have G0 : Go p e below A0 (s₁.setTop (mkF m 0 #[.val (.ref a), .val (.ref b), .val (.int 0)] [])) := fun tq kq => by rw [hA0]; exact castTop (ef_rmBB m a b (0 : Int32)) kq
  have G869 : Go p e below A0 (s₁.setTop (mkF m 1 #[.val (.ref a), .val (.ref b), .val (.int 0)] [(.ref a)])) := fun tq kq => G0 tq (by
    refine XS.aloadN X0.here hx rfl (hb hby d27_0) rfl rfl ?_
    exact kq)
  obtain ⟨T870, X870, e870, st870⟩ := initO X0 hx hZ hown (wd hw 60 rfl) (wd hw 61 rfl) (wd hw 62 rfl) e0 (g := (mkF m 1 #[.val (.ref a), .val (.ref b), .val (.int 0)] [(.ref a)])) rfl (by rw [hml]; rfl) rfl (hb hby d27_1) (by decide) (W := 0) (by show 2 * 0 + _ ≤ _; exact Nat.le_of_eq rfl) (by decide)
  have G871 : Go p e below A0 (T870.setTop (mkF m 4 #[.val (.ref a), .val (.ref b), .val (.int 0)] [])) := fun tq kq => G869 tq (st870 _ kq)
  have G872 : Go p e below A0 (T870.setTop (mkF m 6 #[.val (.ref a), .val (.ref b), .val (.int 0)] [(.ref b), (.ref a)])) := fun tq kq => G871 tq (by
    refine XS.aloadN X870.here hx rfl (hb hby d27_4) rfl rfl ?_
    refine XS.aloadN X870.here hx rfl (hb hby d27_5) rfl rfl ?_
    exact kq)
  obtain ⟨T873, h873, X873, e873, W873, st873⟩ := putF X870 hx hZ hown (host := "") (Or.inl (wd hw 22 rfl)) Via.refl e870 Fv0 E (Or.inr ⟨(wd hw 5 rfl), rfl, hnm⟩) (wd hw 3 rfl) (ty := (.array .byte)) (by decide) rfl rfl (g := (mkF m 6 #[.val (.ref a), .val (.ref b), .val (.int 0)] [(.ref b), (.ref a)])) rfl rfl (hb hby d27_6)
  have N873 := Fr.snoc X873 N0 ga
  have fw873 := Fv0.same W873
  have G874 : Go p e below A0 (T873.setTop (mkF m 9 #[.val (.ref a), .val (.ref b), .val (.int 0)] [])) := fun tq kq => G872 tq (st873 _ kq)
  have G875 : Go p e below A0 (T873.setTop (mkF m 11 #[.val (.ref a), .val (.ref b), .val (.int 0)] [(.int 0), (.ref a)])) := fun tq kq => G874 tq (by
    refine XS.aloadN X873.here hx rfl (hb hby d27_9) rfl rfl ?_
    refine XS.iloadN X873.here hx rfl (hb hby d27_10) rfl ?_
    exact kq)
  have f876 := (E.wr W873)
  have f877 := (Fc0.other W873 (Or.inr (slot_ne (Or.inr (wd hw 6 rfl)) (Or.inr (wd hw 5 rfl)) (by decide) (t := .byte) (t' := (.array .byte)) (by decide) (by decide))))
  obtain ⟨T878, h878, X878, e878, W878, st878⟩ := putFN X873 hx hZ hown (wd hw 29 rfl) Via.refl e873 f877 f876 (Or.inr ⟨(wd hw 6 rfl), rfl, hnm⟩) (wd hw 3 rfl) (ty := .byte) (v' := (.int 0)) (by decide) rfl rfl (g := (mkF m 11 #[.val (.ref a), .val (.ref b), .val (.int 0)] [(.int 0), (.ref a)])) rfl rfl (hb hby d27_11)
  have N878 := Fr.snoc X878 N873 ga
  have fw878 := f877.same W878
  have G879 : Go p e below A0 (T878.setTop (mkF m 14 #[.val (.ref a), .val (.ref b), .val (.int 0)] [])) := fun tq kq => G875 tq (st878 _ kq)
  have f880 := (fw873.other W878 (Or.inr (slot_ne (Or.inr (wd hw 5 rfl)) (Or.inr (wd hw 6 rfl)) (by decide) (t := (.array .byte)) (t' := .byte) (by decide) (by decide))))
  obtain ⟨fs, hr, hrun, hended, hW, hsame⟩ := X878.leave (v := none) (fun _ => rfl)
  refine ⟨_, _, (by rw [← hA0]; exact G879 _ (X878.returnOut hx Bd.returns (hb hby d27_14) hr)), hrun, hended, _, _, rfl, ?_, ⟨_, rfl⟩, hW, hsame.mono (by decide) (by decide)⟩
  show Qbb Z a b h0 n0 _ T878.heap _
  rw [e878]
  exact ⟨rfl, N878, (((Keep.refl h0 [a]).wr W873 (Or.inl (List.mem_of_getElem? (i := 0) rfl))).wr W878 (Or.inl (List.mem_of_getElem? (i := 0) rfl))), f880, fw878⟩
set_option maxRecDepth 65536 in
set_option maxHeartbeats 40000000 in
theorem rmVO (l : Launch) (Z : State) (a0 : Array Value) (hw : ∀ d ∈ tables_1, d.before a0 Z = true) (ws : List Jvm.Cond) (uc : Int32) (cs : Int32) (fo : Value) (h0 : Heap) (n0 : Nat) (Z0 : n0 ≤ h0.size) (luc : own_L uc) (hCS : Sta Z Z.heap "java/lang/String" "COMPACT_STRINGS" "Z" (.int cs)) (hcs : ¬ cs = (0 : Int32)) (hSF : Sta Z Z.heap "jdk/internal/util/Preconditions" "SIOOBE_FORMATTER" "Ljava/util/function/BiFunction;" fo) (hfo : fo.isRef = true) (hold : Old Z n0 h0) :
    MetFree l (⟨"java/lang/String", "valueOf", "(C)Ljava/lang/String;"⟩ : MethodName) (head1 (Jvm.Cond.code (⟨"java/lang/String", "valueOf", "(C)Ljava/lang/String;"⟩ : MethodName) jdk_42_method_139_code 1 (some (.object "java/lang/String")) :: ws) (Rm 2 2 5 27)) (fun aa UU => aa = #[(.int uc)] ∧ Z.Warmed39 UU.vm ∧ UU.heap = h0) (fun _ _ _ _ _ => True) (fun _ UU oo U' => ∃ v L, oo = .returned v ∧ Qw Z (1 : Int32) (fun _ => uc) h0 n0 v U'.heap L ∧ FrameEnd UU oo U' L (Rm 2 2 5 27).cells (Rm 2 2 5 27).slots) := by
  refine MetFree.of_bodySF (plainFor_of_name pn_1) hisR ?_
  intro p e s m args below meth c s₁ Bd hml0 hP hK
  obtain ⟨rfl, hZ, hh⟩ := hP
  have hx := Bd.exec
  have hby := Bd.bytes
  have hml : c.maxLocals = 1 := hml0
  have hown : s.vm.findClass "java/lang/String" = some m.cls := findClass_of_methodNamed Bd.named
  have hnm := (name_of_methodNamed Bd.named Bd.method).1
  have X0 : Stand p l e (Rm 2 2 5 27) s m #[(.int uc)] below meth c s₁ [] 0 0 := Stand.of_body Bd
  have e0 : s₁.heap = h0 := by rw [← hh, Bd.state]; rfl
  have N0 := Fr.nil n0
  obtain ⟨A0, hA0⟩ : ∃ A, A = s₁.setTop (entryFrame m #[(.int uc)] 1) := ⟨_, rfl⟩
  have G0 : Go p e below A0 (s₁.setTop (mkF m 0 #[.val (.int uc)] [])) := fun tq kq => by rw [hA0]; exact castTop (ef_rmVO m uc) kq
  obtain ⟨T881, X881, e881, st881⟩ := getS2 X0 hx hZ hown (host := "") (Or.inl (wd hw 28 rfl)) Via.refl e0 (hCS.ext hold.2) (g := (mkF m 0 #[.val (.int uc)] [])) rfl (hb hby d24_0)
  have G882 : Go p e below A0 (T881.setTop (mkF m 3 #[.val (.int uc)] [(.int cs)])) := fun tq kq => G0 tq (st881 _ kq)
  have G883 : Go p e below A0 (T881.setTop (mkF m 7 #[.val (.int uc)] [(.int uc)])) := fun tq kq => G882 tq (by
    refine XS.ifNo X881.here hx rfl (hb hby d24_3) rfl ((if0 _ _).trans (feq hcs).1) ?_
    refine XS.iloadN X881.here hx rfl (hb hby d24_6) rfl ?_
    exact kq)
  obtain ⟨_, _, ⟨T884, L884, k884, n884⟩, -, X884, ⟨Lc884, hQ884, l884, y884, z884⟩, st884⟩ := Jvm.LawKit.callS X881 hx (y := (⟨"java/lang/StringLatin1", "canEncode", "(C)Z"⟩ : MethodName)) hown (mvT hZ (wd hw 124 rfl)) (mvT hZ (wd hw 125 rfl)) (mvT hZ (wd hw 42 rfl)) (mvT hZ (wd hw 126 rfl)) (by decide) (backOf (W := 0) (rmCE l Z a0 hw [] uc h0 n0 Z0 luc) hZ (wd hw 126 rfl) (wd hw 42 rfl) (by decide) (by decide)) (g := (mkF m 7 #[.val (.int uc)] [(.int uc)])) rfl (by rw [hml]; rfl) (argsL := [(.int uc)]) (rest := []) (lenOf pd_13 rfl) rfl (by show 2 * 0 + _ ≤ _; exact Nat.le_of_eq rfl) (hb hby d24_7) (fun _ _ => ⟨rfl, e881, (by decide : 0 + 0 ≤ _), (by decide : 0 + 0 ≤ _)⟩)
  dsimp only [Pt.U, Pt.locs, Pt.cells, Pt.slots] at X884 l884 y884 z884 st884 hQ884
  obtain rfl : k884 = 0 := y884
  obtain rfl : n884 = 0 := z884
  obtain ⟨rfl, N884q, e884⟩ := hQ884
  have N884 : Fr n0 L884 := by rw [l884]; exact Fr.app N0 N884q
  have G885 : Go p e below A0 (T884.setTop (mkF m 10 #[.val (.int uc)] [(.int 1)])) := fun tq kq => G883 tq (st884 _ kq)
  have G886 : Go p e below A0 (T884.setTop (mkF m 13 #[.val (.int uc)] [])) := fun tq kq => G885 tq (by
    refine XS.ifNo X884.here hx rfl (hb hby d24_10) rfl (by decide) ?_
    exact kq)
  obtain ⟨T887, h887, X887, e887, E887, A887, D887, -, st887⟩ := newO X884 hx hZ hown (wd hw 101 rfl) (wd hw 3 rfl) (wd hw 2 rfl) e884 (g := (mkF m 13 #[.val (.int uc)] [])) rfl (hb hby d24_13) (by decide) (by decide)
  obtain ⟨b887, g887⟩ : ∃ z, z = h0.size := ⟨_, rfl⟩
  rw [← g887] at A887 D887 st887
  have sz_b887 : h0.size ≤ b887 := Nat.le_trans (Nat.le_refl h0.size) (Nat.le_of_eq g887.symm)
  have g_b887 : n0 ≤ b887 := Nat.le_trans Z0 (Nat.le_of_eq g887.symm)
  have F887_value : Fld Z h887 b887 "java/lang/String" "value" "[B" .null := D887 (Or.inr (wd hw 5 rfl)) (ty := (.array .byte)) (by decide)
  have F887_coder : Fld Z h887 b887 "java/lang/String" "coder" "B" (.int 0) := D887 (Or.inr (wd hw 6 rfl)) (ty := .byte) (by decide)
  have G888 : Go p e below A0 (T887.setTop (mkF m 16 #[.val (.int uc)] [(.ref b887)])) := fun tq kq => G886 tq (st887 _ kq)
  have G889 : Go p e below A0 (T887.setTop (mkF m 18 #[.val (.int uc)] [(.int uc), (.ref b887), (.ref b887)])) := fun tq kq => G888 tq (by
    refine XS.dup X887.here hx rfl (hb hby d24_16) rfl rfl ?_
    refine XS.iloadN X887.here hx rfl (hb hby d24_17) rfl ?_
    exact kq)
  have f891 := (Nat.le_trans Z0 E887.1)
  have f892 := (Nat.le_trans (Nat.le_refl h0.size) E887.1)
  obtain ⟨_, _, ⟨T890, L890, k890, n890⟩, -, X890, ⟨Lc890, hQ890, l890, y890, z890⟩, st890⟩ := Jvm.LawKit.callS X887 hx (y := (⟨"java/lang/StringLatin1", "toBytes", "(C)[B"⟩ : MethodName)) hown (mvT hZ (wd hw 127 rfl)) (mvT hZ (wd hw 128 rfl)) (mvT hZ (wd hw 42 rfl)) (mvT hZ (wd hw 129 rfl)) (by decide) (backOf (W := 2) (rmTC l Z a0 hw [] uc h887 n0 f891 ) hZ (wd hw 129 rfl) (wd hw 42 rfl) (by decide) (by decide)) (g := (mkF m 18 #[.val (.int uc)] [(.int uc), (.ref b887), (.ref b887)])) rfl (by rw [hml]; rfl) (argsL := [(.int uc)]) (rest := [(.ref b887), (.ref b887)]) (lenOf pd_14 rfl) rfl (by show 2 * 0 + _ ≤ _; exact Nat.le_of_eq rfl) (hb hby d24_18) (fun _ _ => ⟨rfl, e887, (by decide : 1 + 1 ≤ _), (by decide : 4 + 1 ≤ _)⟩)
  dsimp only [Pt.U, Pt.locs, Pt.cells, Pt.slots] at X890 l890 y890 z890 st890 hQ890
  obtain rfl : k890 = 2 := y890
  obtain rfl : n890 = 5 := z890
  obtain ⟨bb890, kk890, rfl, N890q, K890, hs890, hg890, Ab890⟩ := hQ890
  have N890 : Fr n0 L890 := by rw [l890]; exact Fr.app N884 N890q
  have lt_b887_bb890 : b887 < bb890 := Nat.lt_of_lt_of_le A887.lt hs890
  have sz_bb890 : h0.size ≤ bb890 := Nat.le_trans f892 hs890
  have G893 : Go p e below A0 (T890.setTop (mkF m 21 #[.val (.int uc)] [(.ref bb890), (.ref b887), (.ref b887)])) := fun tq kq => G889 tq (st890 _ kq)
  have G894 : Go p e below A0 (T890.setTop (mkF m 22 #[.val (.int uc)] [(.int 0), (.ref bb890), (.ref b887), (.ref b887)])) := fun tq kq => G893 tq (by
    refine XS.iconst X890.here hx rfl (hb hby d24_21) ?_
    exact kq)
  have f896 := (Nat.le_trans f891 K890.1)
  have f897 := (A887.keep K890)
  have f898 := (F887_value.keep K890 nin0)
  have f899 := (F887_coder.keep K890 nin0)
  have f900 := ((hold.ext E887).keep K890 all0)
  obtain ⟨_, _, ⟨T895, L895, k895, n895⟩, -, X895, ⟨Lc895, hQ895, l895, y895, z895⟩, st895⟩ := X890.specialBack hx (y := (⟨"java/lang/String", "<init>", "([BB)V"⟩ : MethodName)) rfl hown (mvT hZ (wd hw 130 rfl)) (mvT hZ (wd hw 131 rfl)) (mvT hZ (wd hw 132 rfl)) (by decide) (backOf (W := 1) (rmBB l Z a0 hw [] b887 bb890 cs fo T890.heap n0 f896 f897 g_b887 f898 f899 hCS hcs hSF hfo f900) hZ (wd hw 132 rfl) (wd hw 2 rfl) (by decide) (by decide)) (g := (mkF m 22 #[.val (.int uc)] [(.int 0), (.ref bb890), (.ref b887), (.ref b887)])) rfl (by rw [hml]; rfl) (Steps.refl _) (a := b887) (argsL := [(.ref bb890), (.int 0)]) (rest := [(.ref b887)]) (lenOf pd_15 rfl) rfl (by show 2 * 0 + _ ≤ _; exact Nat.le_of_eq rfl) (hb hby d24_22) (fun _ _ => ⟨rfl, rfl, (by decide : 2 + 0 ≤ _), (by decide : 5 + 0 ≤ _)⟩)
  dsimp only [Pt.U, Pt.locs, Pt.cells, Pt.slots] at X895 l895 y895 z895 st895 hQ895
  obtain rfl : k895 = 2 := y895
  obtain rfl : n895 = 5 := z895
  obtain ⟨rfl, N895q, K895, Fv895, Fc895⟩ := hQ895
  have N895 : Fr n0 L895 := by rw [l895]; exact Fr.app N890 N895q
  have G901 : Go p e below A0 (T895.setTop (mkF m 25 #[.val (.int uc)] [(.ref b887)])) := fun tq kq => G894 tq (st895.trans kq)
  have f902 := (f897.keep K895)
  have f903 := (Ab890.keep K895 (ninS (Ne.symm (Nat.ne_of_lt lt_b887_bb890)) nin0))
  obtain ⟨fs, hr, hrun, hended, hW, hsame⟩ := X895.leave (v := some (.ref b887)) (fun h => by rw [Bd.returns] at h; cases h)
  refine ⟨_, _, (by rw [← hA0]; exact G901 _ (retOut X895 hx (t := (.object "java/lang/String")) Bd.returns rfl (Or.inr (Or.inr (Or.inr (Or.inr ⟨rfl, rfl, rfl⟩)))) (hb hby d24_25) hr)), hrun, hended, _, _, rfl, ?_, ⟨_, rfl⟩, hW, hsame.mono (by decide) (by decide)⟩
  show Qw Z (1 : Int32) (fun _ => uc) h0 n0 _ T895.heap _
  exact ⟨b887, bb890, kk890, rfl, N895, ((((Keep.refl h0 []).ext E887).trans K890 all0).trans K895 (allS (P := fun x => x ∈ [] ∨ h0.size ≤ x) (Or.inr sz_b887) all0)), g_b887, f902, Fv895, Fc895, f903⟩
set_option maxRecDepth 65536 in
set_option maxHeartbeats 40000000 in
theorem rmSEX (l : Launch) (Z : State) (a0 : Array Value) (hw : ∀ d ∈ tables_1, d.before a0 Z = true) (ws : List Jvm.Cond) (b1 b2 : Addr) (k1 k2 : ClassId) (g1 g2 : Nat → Value) (n1 n2 : Int32) (h0 : Heap) (n0 : Nat) (Z0 : n0 ≤ h0.size) (A1 : Af Z h0 b1 k1 .byte n1 g1) (A2 : Af Z h0 b2 k2 .byte n2 g2) (hnn : ¬ n1 = n2) :
    MetFree l (⟨"java/lang/StringLatin1", "equals", "([B[B)Z"⟩ : MethodName) (head1 (Jvm.Cond.code (⟨"java/lang/StringLatin1", "equals", "([B[B)Z"⟩ : MethodName) jdk_43_method_13_code 3 (some .boolean) :: ws) (Rm 0 0 0 0)) (fun aa UU => aa = #[(.ref b1), (.ref b2)] ∧ Z.Warmed39 UU.vm ∧ UU.heap = h0) (fun _ _ _ _ _ => True) (fun _ UU oo U' => ∃ v L, oo = .returned v ∧ Qr (.int 0) h0 n0 v U'.heap L ∧ FrameEnd UU oo U' L (Rm 0 0 0 0).cells (Rm 0 0 0 0).slots) := by
  refine MetFree.of_bodySF (plainFor_of_name pn_2) hisR ?_
  intro p e s m args below meth c s₁ Bd hml0 hP hK
  obtain ⟨rfl, hZ, hh⟩ := hP
  have hx := Bd.exec
  have hby := Bd.bytes
  have hml : c.maxLocals = 3 := hml0
  have hown : s.vm.findClass "java/lang/StringLatin1" = some m.cls := findClass_of_methodNamed Bd.named
  have hnm := (name_of_methodNamed Bd.named Bd.method).1
  have X0 : Stand p l e (Rm 0 0 0 0) s m #[(.ref b1), (.ref b2)] below meth c s₁ [] 0 0 := Stand.of_body Bd
  have e0 : s₁.heap = h0 := by rw [← hh, Bd.state]; rfl
  have N0 := Fr.nil n0
  obtain ⟨A0, hA0⟩ : ∃ A, A = s₁.setTop (entryFrame m #[(.ref b1), (.ref b2)] 3) := ⟨_, rfl⟩
  have G0 : Go p e below A0 (s₁.setTop (mkF m 0 #[.val (.ref b1), .val (.ref b2), .unset] [])) := fun tq kq => by rw [hA0]; exact castTop (ef_rmSEX m b1 b2) kq
  have G904 : Go p e below A0 (s₁.setTop (mkF m 1 #[.val (.ref b1), .val (.ref b2), .unset] [(.ref b1)])) := fun tq kq => G0 tq (by
    refine XS.aloadN X0.here hx rfl (hb hby d19_0) rfl rfl ?_
    exact kq)
  obtain ⟨cl905, Ar905, q905, S905, M905, H905⟩ := id A1
  have G906 : Go p e below A0 (s₁.setTop (mkF m 3 #[.val (.ref b1), .val (.ref b2), .unset] [(.ref b2), (.int n1)])) := fun tq kq => G904 tq (by
    refine X0.arraylength hx (by rw [e0]; exact Ar905.1) (State.isArrayOf_alike hZ.alike Ar905.2.1) (g := (mkF m 1 #[.val (.ref b1), .val (.ref b2), .unset] [(.ref b1)])) rfl rfl (hb hby d19_1) _ ?_
    rw [len_of S905 M905]
    show Steps p.tables e below (s₁.setTop (mkF m 2 #[.val (.ref b1), .val (.ref b2), .unset] [(.int n1)])) _
    refine XS.aloadN X0.here hx rfl (hb hby d19_2) rfl rfl ?_
    exact kq)
  obtain ⟨cl907, Ar907, q907, S907, M907, H907⟩ := id A2
  have G908 : Go p e below A0 (s₁.setTop (mkF m 35 #[.val (.ref b1), .val (.ref b2), .unset] [(.int 0)])) := fun tq kq => G906 tq (by
    refine X0.arraylength hx (by rw [e0]; exact Ar907.1) (State.isArrayOf_alike hZ.alike Ar907.2.1) (g := (mkF m 3 #[.val (.ref b1), .val (.ref b2), .unset] [(.ref b2), (.int n1)])) rfl rfl (hb hby d19_3) _ ?_
    rw [len_of S907 M907]
    show Steps p.tables e below (s₁.setTop (mkF m 4 #[.val (.ref b1), .val (.ref b2), .unset] [(.int n2), (.int n1)])) _
    refine XS.icmpYes X0.here hx rfl (pc0 := 4) (pc' := 34) rfl (hb hby d19_4) rfl (feq hnn).2 (by decide) (by decide) ?_
    refine XS.iconst X0.here hx rfl (hb hby d19_34) ?_
    exact kq)
  obtain ⟨fs, hr, hrun, hended, hW, hsame⟩ := X0.leave (v := some (.int (nar .boolean (0 : Int32)))) (fun h => by rw [Bd.returns] at h; cases h)
  refine ⟨_, _, (by rw [← hA0]; exact G908 _ (retN X0 hx (t := .boolean) Bd.returns (by simp) (hb hby d19_35) hr)), hrun, hended, _, _, rfl, ?_, ⟨_, rfl⟩, hW, hsame.mono (by decide) (by decide)⟩
  exact ⟨rfl, N0, e0⟩
set_option maxRecDepth 65536 in
set_option maxHeartbeats 40000000 in
theorem rmSE9 (l : Launch) (Z : State) (a0 : Array Value) (hw : ∀ d ∈ tables_1, d.before a0 Z = true) (ws : List Jvm.Cond) (b1 b2 : Addr) (k1 k2 : ClassId) (cf1 cf2 : Nat → Int32) (h0 : Heap) (n0 : Nat) (Z0 : n0 ≤ h0.size) (A1 : Af Z h0 b1 k1 .byte (9 : Int32) (fun j => .int (own_by (cf1 j)))) (A2 : Af Z h0 b2 k2 .byte (9 : Int32) (fun j => .int (own_by (cf2 j)))) :
    MetFree l (⟨"java/lang/StringLatin1", "equals", "([B[B)Z"⟩ : MethodName) (head1 (Jvm.Cond.code (⟨"java/lang/StringLatin1", "equals", "([B[B)Z"⟩ : MethodName) jdk_43_method_13_code 3 (some .boolean) :: ws) (Rm 0 0 0 0)) (fun aa UU => aa = #[(.ref b1), (.ref b2)] ∧ Z.Warmed39 UU.vm ∧ UU.heap = h0) (fun _ _ _ _ _ => True) (fun _ UU oo U' => ∃ v L, oo = .returned v ∧ Qr (.int (own_b (own_eqf 9 cf1 cf2))) h0 n0 v U'.heap L ∧ FrameEnd UU oo U' L (Rm 0 0 0 0).cells (Rm 0 0 0 0).slots) := by
  refine MetFree.of_bodySF (plainFor_of_name pn_2) hisR ?_
  intro p e s m args below meth c s₁ Bd hml0 hP hK
  obtain ⟨rfl, hZ, hh⟩ := hP
  have hx := Bd.exec
  have hby := Bd.bytes
  have hml : c.maxLocals = 3 := hml0
  have hown : s.vm.findClass "java/lang/StringLatin1" = some m.cls := findClass_of_methodNamed Bd.named
  have hnm := (name_of_methodNamed Bd.named Bd.method).1
  have X0 : Stand p l e (Rm 0 0 0 0) s m #[(.ref b1), (.ref b2)] below meth c s₁ [] 0 0 := Stand.of_body Bd
  have e0 : s₁.heap = h0 := by rw [← hh, Bd.state]; rfl
  have N0 := Fr.nil n0
  obtain ⟨A0, hA0⟩ : ∃ A, A = s₁.setTop (entryFrame m #[(.ref b1), (.ref b2)] 3) := ⟨_, rfl⟩
  have G0 : Go p e below A0 (s₁.setTop (mkF m 0 #[.val (.ref b1), .val (.ref b2), .unset] [])) := fun tq kq => by rw [hA0]; exact castTop (ef_rmSE9 m b1 b2) kq
  have G909 : Go p e below A0 (s₁.setTop (mkF m 1 #[.val (.ref b1), .val (.ref b2), .unset] [(.ref b1)])) := fun tq kq => G0 tq (by
    refine XS.aloadN X0.here hx rfl (hb hby d19_0) rfl rfl ?_
    exact kq)
  obtain ⟨cl910, Ar910, q910, S910, M910, H910⟩ := id A1
  have G911 : Go p e below A0 (s₁.setTop (mkF m 3 #[.val (.ref b1), .val (.ref b2), .unset] [(.ref b2), (.int 9)])) := fun tq kq => G909 tq (by
    refine X0.arraylength hx (by rw [e0]; exact Ar910.1) (State.isArrayOf_alike hZ.alike Ar910.2.1) (g := (mkF m 1 #[.val (.ref b1), .val (.ref b2), .unset] [(.ref b1)])) rfl rfl (hb hby d19_1) _ ?_
    rw [len_of S910 M910]
    show Steps p.tables e below (s₁.setTop (mkF m 2 #[.val (.ref b1), .val (.ref b2), .unset] [(.int 9)])) _
    refine XS.aloadN X0.here hx rfl (hb hby d19_2) rfl rfl ?_
    exact kq)
  obtain ⟨cl912, Ar912, q912, S912, M912, H912⟩ := id A2
  have G913 : Go p e below A0 (s₁.setTop (mkF m 11 #[.val (.ref b1), .val (.ref b2), .val (.int 0)] [(.ref b1), (.int 0)])) := fun tq kq => G911 tq (by
    refine X0.arraylength hx (by rw [e0]; exact Ar912.1) (State.isArrayOf_alike hZ.alike Ar912.2.1) (g := (mkF m 3 #[.val (.ref b1), .val (.ref b2), .unset] [(.ref b2), (.int 9)])) rfl rfl (hb hby d19_3) _ ?_
    rw [len_of S912 M912]
    show Steps p.tables e below (s₁.setTop (mkF m 4 #[.val (.ref b1), .val (.ref b2), .unset] [(.int 9), (.int 9)])) _
    refine XS.icmpNo X0.here hx rfl (hb hby d19_4) rfl (by decide) ?_
    refine XS.iconst X0.here hx rfl (hb hby d19_7) ?_
    refine XS.istoreN X0.here hx rfl (hb hby d19_8) rfl (l' := #[.val (.ref b1), .val (.ref b2), .val (.int 0)]) rfl ?_
    refine XS.iloadN X0.here hx rfl (hb hby d19_9) rfl ?_
    refine XS.aloadN X0.here hx rfl (hb hby d19_10) rfl rfl ?_
    exact kq)
  obtain ⟨cl914, Ar914, q914, S914, M914, H914⟩ := id A1
  have G915 : Go p e below A0 (s₁.setTop (mkF m 17 #[.val (.ref b1), .val (.ref b2), .val (.int 0)] [(.int 0), (.ref b1)])) := fun tq kq => G913 tq (by
    refine X0.arraylength hx (by rw [e0]; exact Ar914.1) (State.isArrayOf_alike hZ.alike Ar914.2.1) (g := (mkF m 11 #[.val (.ref b1), .val (.ref b2), .val (.int 0)] [(.ref b1), (.int 0)])) rfl rfl (hb hby d19_11) _ ?_
    rw [len_of S914 M914]
    show Steps p.tables e below (s₁.setTop (mkF m 12 #[.val (.ref b1), .val (.ref b2), .val (.int 0)] [(.int 9), (.int 0)])) _
    refine XS.icmpNo X0.here hx rfl (hb hby d19_12) rfl (by decide) ?_
    refine XS.aloadN X0.here hx rfl (hb hby d19_15) rfl rfl ?_
    refine XS.iloadN X0.here hx rfl (hb hby d19_16) rfl ?_
    exact kq)
  obtain ⟨cl916, Ar916, q916, S916, M916, H916⟩ := id A1
  have hi917 : ¬ ((0 : Int32) < 0 ∨ cl916.slots.size ≤ ((0 : Int32)).toNatClampNeg) := (inb_of S916 ⟨by decide, by decide⟩)
  have G918 : Go p e below A0 (s₁.setTop (mkF m 20 #[.val (.ref b1), .val (.ref b2), .val (.int 0)] [(.int 0), (.ref b2), (.int (own_by (cf1 0)))])) := fun tq kq => G915 tq (by
    refine X0.baloadBytes hx (j := (0 : Int32)) (v := (.int (own_by (cf1 0)))) (by rw [e0]; exact Ar916.1) (State.isArrayOf_alike hZ.alike Ar916.2.1) Ar916.2.2 hi917 ((H916 _ (S916 ▸ Nat.lt_of_not_le fun y => hi917 (Or.inr y))).trans (congrArg some (congrArg (fun q => Value.int (own_by (cf1 q))) (by decide : ((0 : Int32)).toNatClampNeg = 0)))) (g := (mkF m 17 #[.val (.ref b1), .val (.ref b2), .val (.int 0)] [(.int 0), (.ref b1)])) rfl rfl (hb hby d19_17) _ ?_
    show Steps p.tables e below (s₁.setTop (mkF m 18 #[.val (.ref b1), .val (.ref b2), .val (.int 0)] [(.int (own_by (cf1 0)))])) _
    refine XS.aloadN X0.here hx rfl (hb hby d19_18) rfl rfl ?_
    refine XS.iloadN X0.here hx rfl (hb hby d19_19) rfl ?_
    exact kq)
  obtain ⟨cl919, Ar919, q919, S919, M919, H919⟩ := id A2
  have hi920 : ¬ ((0 : Int32) < 0 ∨ cl919.slots.size ≤ ((0 : Int32)).toNatClampNeg) := (inb_of S919 ⟨by decide, by decide⟩)
  have G921 : Go p e below A0 (s₁.setTop (mkF m 21 #[.val (.ref b1), .val (.ref b2), .val (.int 0)] [(.int (own_by (cf2 0))), (.int (own_by (cf1 0)))])) := fun tq kq => G918 tq (by
    refine X0.baloadBytes hx (j := (0 : Int32)) (v := (.int (own_by (cf2 0)))) (by rw [e0]; exact Ar919.1) (State.isArrayOf_alike hZ.alike Ar919.2.1) Ar919.2.2 hi920 ((H919 _ (S919 ▸ Nat.lt_of_not_le fun y => hi920 (Or.inr y))).trans (congrArg some (congrArg (fun q => Value.int (own_by (cf2 q))) (by decide : ((0 : Int32)).toNatClampNeg = 0)))) (g := (mkF m 20 #[.val (.ref b1), .val (.ref b2), .val (.int 0)] [(.int 0), (.ref b2), (.int (own_by (cf1 0)))])) rfl rfl (hb hby d19_20) _ ?_
    show Steps p.tables e below (s₁.setTop (mkF m 21 #[.val (.ref b1), .val (.ref b2), .val (.int 0)] [(.int (own_by (cf2 0))), (.int (own_by (cf1 0)))])) _
    exact kq)
  by_cases hc922 : (own_by (cf1 0)) = (own_by (cf2 0))
  · have G923 : Go p e below A0 (s₁.setTop (mkF m 11 #[.val (.ref b1), .val (.ref b2), .val (.int 1)] [(.ref b1), (.int 1)])) := fun tq kq => G921 tq (by
      refine XS.icmpYes X0.here hx rfl (pc0 := 21) (pc' := 26) rfl (hb hby d19_21) rfl (teq hc922).1 (by decide) (by decide) ?_
      refine XS.iinc X0.here hx rfl (hb hby d19_26) rfl (l' := #[.val (.ref b1), .val (.ref b2), .val (.int ((0 : Int32) + (1 : Int32)))]) rfl ?_
      show Steps p.tables e below (s₁.setTop (mkF m 29 #[.val (.ref b1), .val (.ref b2), .val (.int ((0 : Int32) + (1 : Int32)))] [])) _
      rw [show ((0 : Int32) + (1 : Int32)) = (1 : Int32) from (by decide : ((0 : Int32) + (1 : Int32)) = (1 : Int32))]
      show Steps p.tables e below (s₁.setTop (mkF m 29 #[.val (.ref b1), .val (.ref b2), .val (.int 1)] [])) _
      refine XS.goto X0.here hx rfl (pc0 := 29) (pc' := 9) rfl (hb hby d19_29) (by decide) (by decide) ?_
      refine XS.iloadN X0.here hx rfl (hb hby d19_9) rfl ?_
      refine XS.aloadN X0.here hx rfl (hb hby d19_10) rfl rfl ?_
      exact kq)
    obtain ⟨cl924, Ar924, q924, S924, M924, H924⟩ := id A1
    have G925 : Go p e below A0 (s₁.setTop (mkF m 17 #[.val (.ref b1), .val (.ref b2), .val (.int 1)] [(.int 1), (.ref b1)])) := fun tq kq => G923 tq (by
      refine X0.arraylength hx (by rw [e0]; exact Ar924.1) (State.isArrayOf_alike hZ.alike Ar924.2.1) (g := (mkF m 11 #[.val (.ref b1), .val (.ref b2), .val (.int 1)] [(.ref b1), (.int 1)])) rfl rfl (hb hby d19_11) _ ?_
      rw [len_of S924 M924]
      show Steps p.tables e below (s₁.setTop (mkF m 12 #[.val (.ref b1), .val (.ref b2), .val (.int 1)] [(.int 9), (.int 1)])) _
      refine XS.icmpNo X0.here hx rfl (hb hby d19_12) rfl (by decide) ?_
      refine XS.aloadN X0.here hx rfl (hb hby d19_15) rfl rfl ?_
      refine XS.iloadN X0.here hx rfl (hb hby d19_16) rfl ?_
      exact kq)
    obtain ⟨cl926, Ar926, q926, S926, M926, H926⟩ := id A1
    have hi927 : ¬ ((1 : Int32) < 0 ∨ cl926.slots.size ≤ ((1 : Int32)).toNatClampNeg) := (inb_of S926 ⟨by decide, by decide⟩)
    have G928 : Go p e below A0 (s₁.setTop (mkF m 20 #[.val (.ref b1), .val (.ref b2), .val (.int 1)] [(.int 1), (.ref b2), (.int (own_by (cf1 1)))])) := fun tq kq => G925 tq (by
      refine X0.baloadBytes hx (j := (1 : Int32)) (v := (.int (own_by (cf1 1)))) (by rw [e0]; exact Ar926.1) (State.isArrayOf_alike hZ.alike Ar926.2.1) Ar926.2.2 hi927 ((H926 _ (S926 ▸ Nat.lt_of_not_le fun y => hi927 (Or.inr y))).trans (congrArg some (congrArg (fun q => Value.int (own_by (cf1 q))) (by decide : ((1 : Int32)).toNatClampNeg = 1)))) (g := (mkF m 17 #[.val (.ref b1), .val (.ref b2), .val (.int 1)] [(.int 1), (.ref b1)])) rfl rfl (hb hby d19_17) _ ?_
      show Steps p.tables e below (s₁.setTop (mkF m 18 #[.val (.ref b1), .val (.ref b2), .val (.int 1)] [(.int (own_by (cf1 1)))])) _
      refine XS.aloadN X0.here hx rfl (hb hby d19_18) rfl rfl ?_
      refine XS.iloadN X0.here hx rfl (hb hby d19_19) rfl ?_
      exact kq)
    obtain ⟨cl929, Ar929, q929, S929, M929, H929⟩ := id A2
    have hi930 : ¬ ((1 : Int32) < 0 ∨ cl929.slots.size ≤ ((1 : Int32)).toNatClampNeg) := (inb_of S929 ⟨by decide, by decide⟩)
    have G931 : Go p e below A0 (s₁.setTop (mkF m 21 #[.val (.ref b1), .val (.ref b2), .val (.int 1)] [(.int (own_by (cf2 1))), (.int (own_by (cf1 1)))])) := fun tq kq => G928 tq (by
      refine X0.baloadBytes hx (j := (1 : Int32)) (v := (.int (own_by (cf2 1)))) (by rw [e0]; exact Ar929.1) (State.isArrayOf_alike hZ.alike Ar929.2.1) Ar929.2.2 hi930 ((H929 _ (S929 ▸ Nat.lt_of_not_le fun y => hi930 (Or.inr y))).trans (congrArg some (congrArg (fun q => Value.int (own_by (cf2 q))) (by decide : ((1 : Int32)).toNatClampNeg = 1)))) (g := (mkF m 20 #[.val (.ref b1), .val (.ref b2), .val (.int 1)] [(.int 1), (.ref b2), (.int (own_by (cf1 1)))])) rfl rfl (hb hby d19_20) _ ?_
      show Steps p.tables e below (s₁.setTop (mkF m 21 #[.val (.ref b1), .val (.ref b2), .val (.int 1)] [(.int (own_by (cf2 1))), (.int (own_by (cf1 1)))])) _
      exact kq)
    by_cases hc932 : (own_by (cf1 1)) = (own_by (cf2 1))
    · have G933 : Go p e below A0 (s₁.setTop (mkF m 11 #[.val (.ref b1), .val (.ref b2), .val (.int 2)] [(.ref b1), (.int 2)])) := fun tq kq => G931 tq (by
        refine XS.icmpYes X0.here hx rfl (pc0 := 21) (pc' := 26) rfl (hb hby d19_21) rfl (teq hc932).1 (by decide) (by decide) ?_
        refine XS.iinc X0.here hx rfl (hb hby d19_26) rfl (l' := #[.val (.ref b1), .val (.ref b2), .val (.int ((1 : Int32) + (1 : Int32)))]) rfl ?_
        show Steps p.tables e below (s₁.setTop (mkF m 29 #[.val (.ref b1), .val (.ref b2), .val (.int ((1 : Int32) + (1 : Int32)))] [])) _
        rw [show ((1 : Int32) + (1 : Int32)) = (2 : Int32) from (by decide : ((1 : Int32) + (1 : Int32)) = (2 : Int32))]
        show Steps p.tables e below (s₁.setTop (mkF m 29 #[.val (.ref b1), .val (.ref b2), .val (.int 2)] [])) _
        refine XS.goto X0.here hx rfl (pc0 := 29) (pc' := 9) rfl (hb hby d19_29) (by decide) (by decide) ?_
        refine XS.iloadN X0.here hx rfl (hb hby d19_9) rfl ?_
        refine XS.aloadN X0.here hx rfl (hb hby d19_10) rfl rfl ?_
        exact kq)
      obtain ⟨cl934, Ar934, q934, S934, M934, H934⟩ := id A1
      have G935 : Go p e below A0 (s₁.setTop (mkF m 17 #[.val (.ref b1), .val (.ref b2), .val (.int 2)] [(.int 2), (.ref b1)])) := fun tq kq => G933 tq (by
        refine X0.arraylength hx (by rw [e0]; exact Ar934.1) (State.isArrayOf_alike hZ.alike Ar934.2.1) (g := (mkF m 11 #[.val (.ref b1), .val (.ref b2), .val (.int 2)] [(.ref b1), (.int 2)])) rfl rfl (hb hby d19_11) _ ?_
        rw [len_of S934 M934]
        show Steps p.tables e below (s₁.setTop (mkF m 12 #[.val (.ref b1), .val (.ref b2), .val (.int 2)] [(.int 9), (.int 2)])) _
        refine XS.icmpNo X0.here hx rfl (hb hby d19_12) rfl (by decide) ?_
        refine XS.aloadN X0.here hx rfl (hb hby d19_15) rfl rfl ?_
        refine XS.iloadN X0.here hx rfl (hb hby d19_16) rfl ?_
        exact kq)
      obtain ⟨cl936, Ar936, q936, S936, M936, H936⟩ := id A1
      have hi937 : ¬ ((2 : Int32) < 0 ∨ cl936.slots.size ≤ ((2 : Int32)).toNatClampNeg) := (inb_of S936 ⟨by decide, by decide⟩)
      have G938 : Go p e below A0 (s₁.setTop (mkF m 20 #[.val (.ref b1), .val (.ref b2), .val (.int 2)] [(.int 2), (.ref b2), (.int (own_by (cf1 2)))])) := fun tq kq => G935 tq (by
        refine X0.baloadBytes hx (j := (2 : Int32)) (v := (.int (own_by (cf1 2)))) (by rw [e0]; exact Ar936.1) (State.isArrayOf_alike hZ.alike Ar936.2.1) Ar936.2.2 hi937 ((H936 _ (S936 ▸ Nat.lt_of_not_le fun y => hi937 (Or.inr y))).trans (congrArg some (congrArg (fun q => Value.int (own_by (cf1 q))) (by decide : ((2 : Int32)).toNatClampNeg = 2)))) (g := (mkF m 17 #[.val (.ref b1), .val (.ref b2), .val (.int 2)] [(.int 2), (.ref b1)])) rfl rfl (hb hby d19_17) _ ?_
        show Steps p.tables e below (s₁.setTop (mkF m 18 #[.val (.ref b1), .val (.ref b2), .val (.int 2)] [(.int (own_by (cf1 2)))])) _
        refine XS.aloadN X0.here hx rfl (hb hby d19_18) rfl rfl ?_
        refine XS.iloadN X0.here hx rfl (hb hby d19_19) rfl ?_
        exact kq)
      obtain ⟨cl939, Ar939, q939, S939, M939, H939⟩ := id A2
      have hi940 : ¬ ((2 : Int32) < 0 ∨ cl939.slots.size ≤ ((2 : Int32)).toNatClampNeg) := (inb_of S939 ⟨by decide, by decide⟩)
      have G941 : Go p e below A0 (s₁.setTop (mkF m 21 #[.val (.ref b1), .val (.ref b2), .val (.int 2)] [(.int (own_by (cf2 2))), (.int (own_by (cf1 2)))])) := fun tq kq => G938 tq (by
        refine X0.baloadBytes hx (j := (2 : Int32)) (v := (.int (own_by (cf2 2)))) (by rw [e0]; exact Ar939.1) (State.isArrayOf_alike hZ.alike Ar939.2.1) Ar939.2.2 hi940 ((H939 _ (S939 ▸ Nat.lt_of_not_le fun y => hi940 (Or.inr y))).trans (congrArg some (congrArg (fun q => Value.int (own_by (cf2 q))) (by decide : ((2 : Int32)).toNatClampNeg = 2)))) (g := (mkF m 20 #[.val (.ref b1), .val (.ref b2), .val (.int 2)] [(.int 2), (.ref b2), (.int (own_by (cf1 2)))])) rfl rfl (hb hby d19_20) _ ?_
        show Steps p.tables e below (s₁.setTop (mkF m 21 #[.val (.ref b1), .val (.ref b2), .val (.int 2)] [(.int (own_by (cf2 2))), (.int (own_by (cf1 2)))])) _
        exact kq)
      by_cases hc942 : (own_by (cf1 2)) = (own_by (cf2 2))
      · have G943 : Go p e below A0 (s₁.setTop (mkF m 11 #[.val (.ref b1), .val (.ref b2), .val (.int 3)] [(.ref b1), (.int 3)])) := fun tq kq => G941 tq (by
          refine XS.icmpYes X0.here hx rfl (pc0 := 21) (pc' := 26) rfl (hb hby d19_21) rfl (teq hc942).1 (by decide) (by decide) ?_
          refine XS.iinc X0.here hx rfl (hb hby d19_26) rfl (l' := #[.val (.ref b1), .val (.ref b2), .val (.int ((2 : Int32) + (1 : Int32)))]) rfl ?_
          show Steps p.tables e below (s₁.setTop (mkF m 29 #[.val (.ref b1), .val (.ref b2), .val (.int ((2 : Int32) + (1 : Int32)))] [])) _
          rw [show ((2 : Int32) + (1 : Int32)) = (3 : Int32) from (by decide : ((2 : Int32) + (1 : Int32)) = (3 : Int32))]
          show Steps p.tables e below (s₁.setTop (mkF m 29 #[.val (.ref b1), .val (.ref b2), .val (.int 3)] [])) _
          refine XS.goto X0.here hx rfl (pc0 := 29) (pc' := 9) rfl (hb hby d19_29) (by decide) (by decide) ?_
          refine XS.iloadN X0.here hx rfl (hb hby d19_9) rfl ?_
          refine XS.aloadN X0.here hx rfl (hb hby d19_10) rfl rfl ?_
          exact kq)
        obtain ⟨cl944, Ar944, q944, S944, M944, H944⟩ := id A1
        have G945 : Go p e below A0 (s₁.setTop (mkF m 17 #[.val (.ref b1), .val (.ref b2), .val (.int 3)] [(.int 3), (.ref b1)])) := fun tq kq => G943 tq (by
          refine X0.arraylength hx (by rw [e0]; exact Ar944.1) (State.isArrayOf_alike hZ.alike Ar944.2.1) (g := (mkF m 11 #[.val (.ref b1), .val (.ref b2), .val (.int 3)] [(.ref b1), (.int 3)])) rfl rfl (hb hby d19_11) _ ?_
          rw [len_of S944 M944]
          show Steps p.tables e below (s₁.setTop (mkF m 12 #[.val (.ref b1), .val (.ref b2), .val (.int 3)] [(.int 9), (.int 3)])) _
          refine XS.icmpNo X0.here hx rfl (hb hby d19_12) rfl (by decide) ?_
          refine XS.aloadN X0.here hx rfl (hb hby d19_15) rfl rfl ?_
          refine XS.iloadN X0.here hx rfl (hb hby d19_16) rfl ?_
          exact kq)
        obtain ⟨cl946, Ar946, q946, S946, M946, H946⟩ := id A1
        have hi947 : ¬ ((3 : Int32) < 0 ∨ cl946.slots.size ≤ ((3 : Int32)).toNatClampNeg) := (inb_of S946 ⟨by decide, by decide⟩)
        have G948 : Go p e below A0 (s₁.setTop (mkF m 20 #[.val (.ref b1), .val (.ref b2), .val (.int 3)] [(.int 3), (.ref b2), (.int (own_by (cf1 3)))])) := fun tq kq => G945 tq (by
          refine X0.baloadBytes hx (j := (3 : Int32)) (v := (.int (own_by (cf1 3)))) (by rw [e0]; exact Ar946.1) (State.isArrayOf_alike hZ.alike Ar946.2.1) Ar946.2.2 hi947 ((H946 _ (S946 ▸ Nat.lt_of_not_le fun y => hi947 (Or.inr y))).trans (congrArg some (congrArg (fun q => Value.int (own_by (cf1 q))) (by decide : ((3 : Int32)).toNatClampNeg = 3)))) (g := (mkF m 17 #[.val (.ref b1), .val (.ref b2), .val (.int 3)] [(.int 3), (.ref b1)])) rfl rfl (hb hby d19_17) _ ?_
          show Steps p.tables e below (s₁.setTop (mkF m 18 #[.val (.ref b1), .val (.ref b2), .val (.int 3)] [(.int (own_by (cf1 3)))])) _
          refine XS.aloadN X0.here hx rfl (hb hby d19_18) rfl rfl ?_
          refine XS.iloadN X0.here hx rfl (hb hby d19_19) rfl ?_
          exact kq)
        obtain ⟨cl949, Ar949, q949, S949, M949, H949⟩ := id A2
        have hi950 : ¬ ((3 : Int32) < 0 ∨ cl949.slots.size ≤ ((3 : Int32)).toNatClampNeg) := (inb_of S949 ⟨by decide, by decide⟩)
        have G951 : Go p e below A0 (s₁.setTop (mkF m 21 #[.val (.ref b1), .val (.ref b2), .val (.int 3)] [(.int (own_by (cf2 3))), (.int (own_by (cf1 3)))])) := fun tq kq => G948 tq (by
          refine X0.baloadBytes hx (j := (3 : Int32)) (v := (.int (own_by (cf2 3)))) (by rw [e0]; exact Ar949.1) (State.isArrayOf_alike hZ.alike Ar949.2.1) Ar949.2.2 hi950 ((H949 _ (S949 ▸ Nat.lt_of_not_le fun y => hi950 (Or.inr y))).trans (congrArg some (congrArg (fun q => Value.int (own_by (cf2 q))) (by decide : ((3 : Int32)).toNatClampNeg = 3)))) (g := (mkF m 20 #[.val (.ref b1), .val (.ref b2), .val (.int 3)] [(.int 3), (.ref b2), (.int (own_by (cf1 3)))])) rfl rfl (hb hby d19_20) _ ?_
          show Steps p.tables e below (s₁.setTop (mkF m 21 #[.val (.ref b1), .val (.ref b2), .val (.int 3)] [(.int (own_by (cf2 3))), (.int (own_by (cf1 3)))])) _
          exact kq)
        by_cases hc952 : (own_by (cf1 3)) = (own_by (cf2 3))
        · have G953 : Go p e below A0 (s₁.setTop (mkF m 11 #[.val (.ref b1), .val (.ref b2), .val (.int 4)] [(.ref b1), (.int 4)])) := fun tq kq => G951 tq (by
            refine XS.icmpYes X0.here hx rfl (pc0 := 21) (pc' := 26) rfl (hb hby d19_21) rfl (teq hc952).1 (by decide) (by decide) ?_
            refine XS.iinc X0.here hx rfl (hb hby d19_26) rfl (l' := #[.val (.ref b1), .val (.ref b2), .val (.int ((3 : Int32) + (1 : Int32)))]) rfl ?_
            show Steps p.tables e below (s₁.setTop (mkF m 29 #[.val (.ref b1), .val (.ref b2), .val (.int ((3 : Int32) + (1 : Int32)))] [])) _
            rw [show ((3 : Int32) + (1 : Int32)) = (4 : Int32) from (by decide : ((3 : Int32) + (1 : Int32)) = (4 : Int32))]
            show Steps p.tables e below (s₁.setTop (mkF m 29 #[.val (.ref b1), .val (.ref b2), .val (.int 4)] [])) _
            refine XS.goto X0.here hx rfl (pc0 := 29) (pc' := 9) rfl (hb hby d19_29) (by decide) (by decide) ?_
            refine XS.iloadN X0.here hx rfl (hb hby d19_9) rfl ?_
            refine XS.aloadN X0.here hx rfl (hb hby d19_10) rfl rfl ?_
            exact kq)
          obtain ⟨cl954, Ar954, q954, S954, M954, H954⟩ := id A1
          have G955 : Go p e below A0 (s₁.setTop (mkF m 17 #[.val (.ref b1), .val (.ref b2), .val (.int 4)] [(.int 4), (.ref b1)])) := fun tq kq => G953 tq (by
            refine X0.arraylength hx (by rw [e0]; exact Ar954.1) (State.isArrayOf_alike hZ.alike Ar954.2.1) (g := (mkF m 11 #[.val (.ref b1), .val (.ref b2), .val (.int 4)] [(.ref b1), (.int 4)])) rfl rfl (hb hby d19_11) _ ?_
            rw [len_of S954 M954]
            show Steps p.tables e below (s₁.setTop (mkF m 12 #[.val (.ref b1), .val (.ref b2), .val (.int 4)] [(.int 9), (.int 4)])) _
            refine XS.icmpNo X0.here hx rfl (hb hby d19_12) rfl (by decide) ?_
            refine XS.aloadN X0.here hx rfl (hb hby d19_15) rfl rfl ?_
            refine XS.iloadN X0.here hx rfl (hb hby d19_16) rfl ?_
            exact kq)
          obtain ⟨cl956, Ar956, q956, S956, M956, H956⟩ := id A1
          have hi957 : ¬ ((4 : Int32) < 0 ∨ cl956.slots.size ≤ ((4 : Int32)).toNatClampNeg) := (inb_of S956 ⟨by decide, by decide⟩)
          have G958 : Go p e below A0 (s₁.setTop (mkF m 20 #[.val (.ref b1), .val (.ref b2), .val (.int 4)] [(.int 4), (.ref b2), (.int (own_by (cf1 4)))])) := fun tq kq => G955 tq (by
            refine X0.baloadBytes hx (j := (4 : Int32)) (v := (.int (own_by (cf1 4)))) (by rw [e0]; exact Ar956.1) (State.isArrayOf_alike hZ.alike Ar956.2.1) Ar956.2.2 hi957 ((H956 _ (S956 ▸ Nat.lt_of_not_le fun y => hi957 (Or.inr y))).trans (congrArg some (congrArg (fun q => Value.int (own_by (cf1 q))) (by decide : ((4 : Int32)).toNatClampNeg = 4)))) (g := (mkF m 17 #[.val (.ref b1), .val (.ref b2), .val (.int 4)] [(.int 4), (.ref b1)])) rfl rfl (hb hby d19_17) _ ?_
            show Steps p.tables e below (s₁.setTop (mkF m 18 #[.val (.ref b1), .val (.ref b2), .val (.int 4)] [(.int (own_by (cf1 4)))])) _
            refine XS.aloadN X0.here hx rfl (hb hby d19_18) rfl rfl ?_
            refine XS.iloadN X0.here hx rfl (hb hby d19_19) rfl ?_
            exact kq)
          obtain ⟨cl959, Ar959, q959, S959, M959, H959⟩ := id A2
          have hi960 : ¬ ((4 : Int32) < 0 ∨ cl959.slots.size ≤ ((4 : Int32)).toNatClampNeg) := (inb_of S959 ⟨by decide, by decide⟩)
          have G961 : Go p e below A0 (s₁.setTop (mkF m 21 #[.val (.ref b1), .val (.ref b2), .val (.int 4)] [(.int (own_by (cf2 4))), (.int (own_by (cf1 4)))])) := fun tq kq => G958 tq (by
            refine X0.baloadBytes hx (j := (4 : Int32)) (v := (.int (own_by (cf2 4)))) (by rw [e0]; exact Ar959.1) (State.isArrayOf_alike hZ.alike Ar959.2.1) Ar959.2.2 hi960 ((H959 _ (S959 ▸ Nat.lt_of_not_le fun y => hi960 (Or.inr y))).trans (congrArg some (congrArg (fun q => Value.int (own_by (cf2 q))) (by decide : ((4 : Int32)).toNatClampNeg = 4)))) (g := (mkF m 20 #[.val (.ref b1), .val (.ref b2), .val (.int 4)] [(.int 4), (.ref b2), (.int (own_by (cf1 4)))])) rfl rfl (hb hby d19_20) _ ?_
            show Steps p.tables e below (s₁.setTop (mkF m 21 #[.val (.ref b1), .val (.ref b2), .val (.int 4)] [(.int (own_by (cf2 4))), (.int (own_by (cf1 4)))])) _
            exact kq)
          by_cases hc962 : (own_by (cf1 4)) = (own_by (cf2 4))
          · have G963 : Go p e below A0 (s₁.setTop (mkF m 11 #[.val (.ref b1), .val (.ref b2), .val (.int 5)] [(.ref b1), (.int 5)])) := fun tq kq => G961 tq (by
              refine XS.icmpYes X0.here hx rfl (pc0 := 21) (pc' := 26) rfl (hb hby d19_21) rfl (teq hc962).1 (by decide) (by decide) ?_
              refine XS.iinc X0.here hx rfl (hb hby d19_26) rfl (l' := #[.val (.ref b1), .val (.ref b2), .val (.int ((4 : Int32) + (1 : Int32)))]) rfl ?_
              show Steps p.tables e below (s₁.setTop (mkF m 29 #[.val (.ref b1), .val (.ref b2), .val (.int ((4 : Int32) + (1 : Int32)))] [])) _
              rw [show ((4 : Int32) + (1 : Int32)) = (5 : Int32) from (by decide : ((4 : Int32) + (1 : Int32)) = (5 : Int32))]
              show Steps p.tables e below (s₁.setTop (mkF m 29 #[.val (.ref b1), .val (.ref b2), .val (.int 5)] [])) _
              refine XS.goto X0.here hx rfl (pc0 := 29) (pc' := 9) rfl (hb hby d19_29) (by decide) (by decide) ?_
              refine XS.iloadN X0.here hx rfl (hb hby d19_9) rfl ?_
              refine XS.aloadN X0.here hx rfl (hb hby d19_10) rfl rfl ?_
              exact kq)
            obtain ⟨cl964, Ar964, q964, S964, M964, H964⟩ := id A1
            have G965 : Go p e below A0 (s₁.setTop (mkF m 17 #[.val (.ref b1), .val (.ref b2), .val (.int 5)] [(.int 5), (.ref b1)])) := fun tq kq => G963 tq (by
              refine X0.arraylength hx (by rw [e0]; exact Ar964.1) (State.isArrayOf_alike hZ.alike Ar964.2.1) (g := (mkF m 11 #[.val (.ref b1), .val (.ref b2), .val (.int 5)] [(.ref b1), (.int 5)])) rfl rfl (hb hby d19_11) _ ?_
              rw [len_of S964 M964]
              show Steps p.tables e below (s₁.setTop (mkF m 12 #[.val (.ref b1), .val (.ref b2), .val (.int 5)] [(.int 9), (.int 5)])) _
              refine XS.icmpNo X0.here hx rfl (hb hby d19_12) rfl (by decide) ?_
              refine XS.aloadN X0.here hx rfl (hb hby d19_15) rfl rfl ?_
              refine XS.iloadN X0.here hx rfl (hb hby d19_16) rfl ?_
              exact kq)
            obtain ⟨cl966, Ar966, q966, S966, M966, H966⟩ := id A1
            have hi967 : ¬ ((5 : Int32) < 0 ∨ cl966.slots.size ≤ ((5 : Int32)).toNatClampNeg) := (inb_of S966 ⟨by decide, by decide⟩)
            have G968 : Go p e below A0 (s₁.setTop (mkF m 20 #[.val (.ref b1), .val (.ref b2), .val (.int 5)] [(.int 5), (.ref b2), (.int (own_by (cf1 5)))])) := fun tq kq => G965 tq (by
              refine X0.baloadBytes hx (j := (5 : Int32)) (v := (.int (own_by (cf1 5)))) (by rw [e0]; exact Ar966.1) (State.isArrayOf_alike hZ.alike Ar966.2.1) Ar966.2.2 hi967 ((H966 _ (S966 ▸ Nat.lt_of_not_le fun y => hi967 (Or.inr y))).trans (congrArg some (congrArg (fun q => Value.int (own_by (cf1 q))) (by decide : ((5 : Int32)).toNatClampNeg = 5)))) (g := (mkF m 17 #[.val (.ref b1), .val (.ref b2), .val (.int 5)] [(.int 5), (.ref b1)])) rfl rfl (hb hby d19_17) _ ?_
              show Steps p.tables e below (s₁.setTop (mkF m 18 #[.val (.ref b1), .val (.ref b2), .val (.int 5)] [(.int (own_by (cf1 5)))])) _
              refine XS.aloadN X0.here hx rfl (hb hby d19_18) rfl rfl ?_
              refine XS.iloadN X0.here hx rfl (hb hby d19_19) rfl ?_
              exact kq)
            obtain ⟨cl969, Ar969, q969, S969, M969, H969⟩ := id A2
            have hi970 : ¬ ((5 : Int32) < 0 ∨ cl969.slots.size ≤ ((5 : Int32)).toNatClampNeg) := (inb_of S969 ⟨by decide, by decide⟩)
            have G971 : Go p e below A0 (s₁.setTop (mkF m 21 #[.val (.ref b1), .val (.ref b2), .val (.int 5)] [(.int (own_by (cf2 5))), (.int (own_by (cf1 5)))])) := fun tq kq => G968 tq (by
              refine X0.baloadBytes hx (j := (5 : Int32)) (v := (.int (own_by (cf2 5)))) (by rw [e0]; exact Ar969.1) (State.isArrayOf_alike hZ.alike Ar969.2.1) Ar969.2.2 hi970 ((H969 _ (S969 ▸ Nat.lt_of_not_le fun y => hi970 (Or.inr y))).trans (congrArg some (congrArg (fun q => Value.int (own_by (cf2 q))) (by decide : ((5 : Int32)).toNatClampNeg = 5)))) (g := (mkF m 20 #[.val (.ref b1), .val (.ref b2), .val (.int 5)] [(.int 5), (.ref b2), (.int (own_by (cf1 5)))])) rfl rfl (hb hby d19_20) _ ?_
              show Steps p.tables e below (s₁.setTop (mkF m 21 #[.val (.ref b1), .val (.ref b2), .val (.int 5)] [(.int (own_by (cf2 5))), (.int (own_by (cf1 5)))])) _
              exact kq)
            by_cases hc972 : (own_by (cf1 5)) = (own_by (cf2 5))
            · have G973 : Go p e below A0 (s₁.setTop (mkF m 11 #[.val (.ref b1), .val (.ref b2), .val (.int 6)] [(.ref b1), (.int 6)])) := fun tq kq => G971 tq (by
                refine XS.icmpYes X0.here hx rfl (pc0 := 21) (pc' := 26) rfl (hb hby d19_21) rfl (teq hc972).1 (by decide) (by decide) ?_
                refine XS.iinc X0.here hx rfl (hb hby d19_26) rfl (l' := #[.val (.ref b1), .val (.ref b2), .val (.int ((5 : Int32) + (1 : Int32)))]) rfl ?_
                show Steps p.tables e below (s₁.setTop (mkF m 29 #[.val (.ref b1), .val (.ref b2), .val (.int ((5 : Int32) + (1 : Int32)))] [])) _
                rw [show ((5 : Int32) + (1 : Int32)) = (6 : Int32) from (by decide : ((5 : Int32) + (1 : Int32)) = (6 : Int32))]
                show Steps p.tables e below (s₁.setTop (mkF m 29 #[.val (.ref b1), .val (.ref b2), .val (.int 6)] [])) _
                refine XS.goto X0.here hx rfl (pc0 := 29) (pc' := 9) rfl (hb hby d19_29) (by decide) (by decide) ?_
                refine XS.iloadN X0.here hx rfl (hb hby d19_9) rfl ?_
                refine XS.aloadN X0.here hx rfl (hb hby d19_10) rfl rfl ?_
                exact kq)
              obtain ⟨cl974, Ar974, q974, S974, M974, H974⟩ := id A1
              have G975 : Go p e below A0 (s₁.setTop (mkF m 17 #[.val (.ref b1), .val (.ref b2), .val (.int 6)] [(.int 6), (.ref b1)])) := fun tq kq => G973 tq (by
                refine X0.arraylength hx (by rw [e0]; exact Ar974.1) (State.isArrayOf_alike hZ.alike Ar974.2.1) (g := (mkF m 11 #[.val (.ref b1), .val (.ref b2), .val (.int 6)] [(.ref b1), (.int 6)])) rfl rfl (hb hby d19_11) _ ?_
                rw [len_of S974 M974]
                show Steps p.tables e below (s₁.setTop (mkF m 12 #[.val (.ref b1), .val (.ref b2), .val (.int 6)] [(.int 9), (.int 6)])) _
                refine XS.icmpNo X0.here hx rfl (hb hby d19_12) rfl (by decide) ?_
                refine XS.aloadN X0.here hx rfl (hb hby d19_15) rfl rfl ?_
                refine XS.iloadN X0.here hx rfl (hb hby d19_16) rfl ?_
                exact kq)
              obtain ⟨cl976, Ar976, q976, S976, M976, H976⟩ := id A1
              have hi977 : ¬ ((6 : Int32) < 0 ∨ cl976.slots.size ≤ ((6 : Int32)).toNatClampNeg) := (inb_of S976 ⟨by decide, by decide⟩)
              have G978 : Go p e below A0 (s₁.setTop (mkF m 20 #[.val (.ref b1), .val (.ref b2), .val (.int 6)] [(.int 6), (.ref b2), (.int (own_by (cf1 6)))])) := fun tq kq => G975 tq (by
                refine X0.baloadBytes hx (j := (6 : Int32)) (v := (.int (own_by (cf1 6)))) (by rw [e0]; exact Ar976.1) (State.isArrayOf_alike hZ.alike Ar976.2.1) Ar976.2.2 hi977 ((H976 _ (S976 ▸ Nat.lt_of_not_le fun y => hi977 (Or.inr y))).trans (congrArg some (congrArg (fun q => Value.int (own_by (cf1 q))) (by decide : ((6 : Int32)).toNatClampNeg = 6)))) (g := (mkF m 17 #[.val (.ref b1), .val (.ref b2), .val (.int 6)] [(.int 6), (.ref b1)])) rfl rfl (hb hby d19_17) _ ?_
                show Steps p.tables e below (s₁.setTop (mkF m 18 #[.val (.ref b1), .val (.ref b2), .val (.int 6)] [(.int (own_by (cf1 6)))])) _
                refine XS.aloadN X0.here hx rfl (hb hby d19_18) rfl rfl ?_
                refine XS.iloadN X0.here hx rfl (hb hby d19_19) rfl ?_
                exact kq)
              obtain ⟨cl979, Ar979, q979, S979, M979, H979⟩ := id A2
              have hi980 : ¬ ((6 : Int32) < 0 ∨ cl979.slots.size ≤ ((6 : Int32)).toNatClampNeg) := (inb_of S979 ⟨by decide, by decide⟩)
              have G981 : Go p e below A0 (s₁.setTop (mkF m 21 #[.val (.ref b1), .val (.ref b2), .val (.int 6)] [(.int (own_by (cf2 6))), (.int (own_by (cf1 6)))])) := fun tq kq => G978 tq (by
                refine X0.baloadBytes hx (j := (6 : Int32)) (v := (.int (own_by (cf2 6)))) (by rw [e0]; exact Ar979.1) (State.isArrayOf_alike hZ.alike Ar979.2.1) Ar979.2.2 hi980 ((H979 _ (S979 ▸ Nat.lt_of_not_le fun y => hi980 (Or.inr y))).trans (congrArg some (congrArg (fun q => Value.int (own_by (cf2 q))) (by decide : ((6 : Int32)).toNatClampNeg = 6)))) (g := (mkF m 20 #[.val (.ref b1), .val (.ref b2), .val (.int 6)] [(.int 6), (.ref b2), (.int (own_by (cf1 6)))])) rfl rfl (hb hby d19_20) _ ?_
                show Steps p.tables e below (s₁.setTop (mkF m 21 #[.val (.ref b1), .val (.ref b2), .val (.int 6)] [(.int (own_by (cf2 6))), (.int (own_by (cf1 6)))])) _
                exact kq)
              by_cases hc982 : (own_by (cf1 6)) = (own_by (cf2 6))
              · have G983 : Go p e below A0 (s₁.setTop (mkF m 11 #[.val (.ref b1), .val (.ref b2), .val (.int 7)] [(.ref b1), (.int 7)])) := fun tq kq => G981 tq (by
                  refine XS.icmpYes X0.here hx rfl (pc0 := 21) (pc' := 26) rfl (hb hby d19_21) rfl (teq hc982).1 (by decide) (by decide) ?_
                  refine XS.iinc X0.here hx rfl (hb hby d19_26) rfl (l' := #[.val (.ref b1), .val (.ref b2), .val (.int ((6 : Int32) + (1 : Int32)))]) rfl ?_
                  show Steps p.tables e below (s₁.setTop (mkF m 29 #[.val (.ref b1), .val (.ref b2), .val (.int ((6 : Int32) + (1 : Int32)))] [])) _
                  rw [show ((6 : Int32) + (1 : Int32)) = (7 : Int32) from (by decide : ((6 : Int32) + (1 : Int32)) = (7 : Int32))]
                  show Steps p.tables e below (s₁.setTop (mkF m 29 #[.val (.ref b1), .val (.ref b2), .val (.int 7)] [])) _
                  refine XS.goto X0.here hx rfl (pc0 := 29) (pc' := 9) rfl (hb hby d19_29) (by decide) (by decide) ?_
                  refine XS.iloadN X0.here hx rfl (hb hby d19_9) rfl ?_
                  refine XS.aloadN X0.here hx rfl (hb hby d19_10) rfl rfl ?_
                  exact kq)
                obtain ⟨cl984, Ar984, q984, S984, M984, H984⟩ := id A1
                have G985 : Go p e below A0 (s₁.setTop (mkF m 17 #[.val (.ref b1), .val (.ref b2), .val (.int 7)] [(.int 7), (.ref b1)])) := fun tq kq => G983 tq (by
                  refine X0.arraylength hx (by rw [e0]; exact Ar984.1) (State.isArrayOf_alike hZ.alike Ar984.2.1) (g := (mkF m 11 #[.val (.ref b1), .val (.ref b2), .val (.int 7)] [(.ref b1), (.int 7)])) rfl rfl (hb hby d19_11) _ ?_
                  rw [len_of S984 M984]
                  show Steps p.tables e below (s₁.setTop (mkF m 12 #[.val (.ref b1), .val (.ref b2), .val (.int 7)] [(.int 9), (.int 7)])) _
                  refine XS.icmpNo X0.here hx rfl (hb hby d19_12) rfl (by decide) ?_
                  refine XS.aloadN X0.here hx rfl (hb hby d19_15) rfl rfl ?_
                  refine XS.iloadN X0.here hx rfl (hb hby d19_16) rfl ?_
                  exact kq)
                obtain ⟨cl986, Ar986, q986, S986, M986, H986⟩ := id A1
                have hi987 : ¬ ((7 : Int32) < 0 ∨ cl986.slots.size ≤ ((7 : Int32)).toNatClampNeg) := (inb_of S986 ⟨by decide, by decide⟩)
                have G988 : Go p e below A0 (s₁.setTop (mkF m 20 #[.val (.ref b1), .val (.ref b2), .val (.int 7)] [(.int 7), (.ref b2), (.int (own_by (cf1 7)))])) := fun tq kq => G985 tq (by
                  refine X0.baloadBytes hx (j := (7 : Int32)) (v := (.int (own_by (cf1 7)))) (by rw [e0]; exact Ar986.1) (State.isArrayOf_alike hZ.alike Ar986.2.1) Ar986.2.2 hi987 ((H986 _ (S986 ▸ Nat.lt_of_not_le fun y => hi987 (Or.inr y))).trans (congrArg some (congrArg (fun q => Value.int (own_by (cf1 q))) (by decide : ((7 : Int32)).toNatClampNeg = 7)))) (g := (mkF m 17 #[.val (.ref b1), .val (.ref b2), .val (.int 7)] [(.int 7), (.ref b1)])) rfl rfl (hb hby d19_17) _ ?_
                  show Steps p.tables e below (s₁.setTop (mkF m 18 #[.val (.ref b1), .val (.ref b2), .val (.int 7)] [(.int (own_by (cf1 7)))])) _
                  refine XS.aloadN X0.here hx rfl (hb hby d19_18) rfl rfl ?_
                  refine XS.iloadN X0.here hx rfl (hb hby d19_19) rfl ?_
                  exact kq)
                obtain ⟨cl989, Ar989, q989, S989, M989, H989⟩ := id A2
                have hi990 : ¬ ((7 : Int32) < 0 ∨ cl989.slots.size ≤ ((7 : Int32)).toNatClampNeg) := (inb_of S989 ⟨by decide, by decide⟩)
                have G991 : Go p e below A0 (s₁.setTop (mkF m 21 #[.val (.ref b1), .val (.ref b2), .val (.int 7)] [(.int (own_by (cf2 7))), (.int (own_by (cf1 7)))])) := fun tq kq => G988 tq (by
                  refine X0.baloadBytes hx (j := (7 : Int32)) (v := (.int (own_by (cf2 7)))) (by rw [e0]; exact Ar989.1) (State.isArrayOf_alike hZ.alike Ar989.2.1) Ar989.2.2 hi990 ((H989 _ (S989 ▸ Nat.lt_of_not_le fun y => hi990 (Or.inr y))).trans (congrArg some (congrArg (fun q => Value.int (own_by (cf2 q))) (by decide : ((7 : Int32)).toNatClampNeg = 7)))) (g := (mkF m 20 #[.val (.ref b1), .val (.ref b2), .val (.int 7)] [(.int 7), (.ref b2), (.int (own_by (cf1 7)))])) rfl rfl (hb hby d19_20) _ ?_
                  show Steps p.tables e below (s₁.setTop (mkF m 21 #[.val (.ref b1), .val (.ref b2), .val (.int 7)] [(.int (own_by (cf2 7))), (.int (own_by (cf1 7)))])) _
                  exact kq)
                by_cases hc992 : (own_by (cf1 7)) = (own_by (cf2 7))
                · have G993 : Go p e below A0 (s₁.setTop (mkF m 11 #[.val (.ref b1), .val (.ref b2), .val (.int 8)] [(.ref b1), (.int 8)])) := fun tq kq => G991 tq (by
                    refine XS.icmpYes X0.here hx rfl (pc0 := 21) (pc' := 26) rfl (hb hby d19_21) rfl (teq hc992).1 (by decide) (by decide) ?_
                    refine XS.iinc X0.here hx rfl (hb hby d19_26) rfl (l' := #[.val (.ref b1), .val (.ref b2), .val (.int ((7 : Int32) + (1 : Int32)))]) rfl ?_
                    show Steps p.tables e below (s₁.setTop (mkF m 29 #[.val (.ref b1), .val (.ref b2), .val (.int ((7 : Int32) + (1 : Int32)))] [])) _
                    rw [show ((7 : Int32) + (1 : Int32)) = (8 : Int32) from (by decide : ((7 : Int32) + (1 : Int32)) = (8 : Int32))]
                    show Steps p.tables e below (s₁.setTop (mkF m 29 #[.val (.ref b1), .val (.ref b2), .val (.int 8)] [])) _
                    refine XS.goto X0.here hx rfl (pc0 := 29) (pc' := 9) rfl (hb hby d19_29) (by decide) (by decide) ?_
                    refine XS.iloadN X0.here hx rfl (hb hby d19_9) rfl ?_
                    refine XS.aloadN X0.here hx rfl (hb hby d19_10) rfl rfl ?_
                    exact kq)
                  obtain ⟨cl994, Ar994, q994, S994, M994, H994⟩ := id A1
                  have G995 : Go p e below A0 (s₁.setTop (mkF m 17 #[.val (.ref b1), .val (.ref b2), .val (.int 8)] [(.int 8), (.ref b1)])) := fun tq kq => G993 tq (by
                    refine X0.arraylength hx (by rw [e0]; exact Ar994.1) (State.isArrayOf_alike hZ.alike Ar994.2.1) (g := (mkF m 11 #[.val (.ref b1), .val (.ref b2), .val (.int 8)] [(.ref b1), (.int 8)])) rfl rfl (hb hby d19_11) _ ?_
                    rw [len_of S994 M994]
                    show Steps p.tables e below (s₁.setTop (mkF m 12 #[.val (.ref b1), .val (.ref b2), .val (.int 8)] [(.int 9), (.int 8)])) _
                    refine XS.icmpNo X0.here hx rfl (hb hby d19_12) rfl (by decide) ?_
                    refine XS.aloadN X0.here hx rfl (hb hby d19_15) rfl rfl ?_
                    refine XS.iloadN X0.here hx rfl (hb hby d19_16) rfl ?_
                    exact kq)
                  obtain ⟨cl996, Ar996, q996, S996, M996, H996⟩ := id A1
                  have hi997 : ¬ ((8 : Int32) < 0 ∨ cl996.slots.size ≤ ((8 : Int32)).toNatClampNeg) := (inb_of S996 ⟨by decide, by decide⟩)
                  have G998 : Go p e below A0 (s₁.setTop (mkF m 20 #[.val (.ref b1), .val (.ref b2), .val (.int 8)] [(.int 8), (.ref b2), (.int (own_by (cf1 8)))])) := fun tq kq => G995 tq (by
                    refine X0.baloadBytes hx (j := (8 : Int32)) (v := (.int (own_by (cf1 8)))) (by rw [e0]; exact Ar996.1) (State.isArrayOf_alike hZ.alike Ar996.2.1) Ar996.2.2 hi997 ((H996 _ (S996 ▸ Nat.lt_of_not_le fun y => hi997 (Or.inr y))).trans (congrArg some (congrArg (fun q => Value.int (own_by (cf1 q))) (by decide : ((8 : Int32)).toNatClampNeg = 8)))) (g := (mkF m 17 #[.val (.ref b1), .val (.ref b2), .val (.int 8)] [(.int 8), (.ref b1)])) rfl rfl (hb hby d19_17) _ ?_
                    show Steps p.tables e below (s₁.setTop (mkF m 18 #[.val (.ref b1), .val (.ref b2), .val (.int 8)] [(.int (own_by (cf1 8)))])) _
                    refine XS.aloadN X0.here hx rfl (hb hby d19_18) rfl rfl ?_
                    refine XS.iloadN X0.here hx rfl (hb hby d19_19) rfl ?_
                    exact kq)
                  obtain ⟨cl999, Ar999, q999, S999, M999, H999⟩ := id A2
                  have hi1000 : ¬ ((8 : Int32) < 0 ∨ cl999.slots.size ≤ ((8 : Int32)).toNatClampNeg) := (inb_of S999 ⟨by decide, by decide⟩)
                  have G1001 : Go p e below A0 (s₁.setTop (mkF m 21 #[.val (.ref b1), .val (.ref b2), .val (.int 8)] [(.int (own_by (cf2 8))), (.int (own_by (cf1 8)))])) := fun tq kq => G998 tq (by
                    refine X0.baloadBytes hx (j := (8 : Int32)) (v := (.int (own_by (cf2 8)))) (by rw [e0]; exact Ar999.1) (State.isArrayOf_alike hZ.alike Ar999.2.1) Ar999.2.2 hi1000 ((H999 _ (S999 ▸ Nat.lt_of_not_le fun y => hi1000 (Or.inr y))).trans (congrArg some (congrArg (fun q => Value.int (own_by (cf2 q))) (by decide : ((8 : Int32)).toNatClampNeg = 8)))) (g := (mkF m 20 #[.val (.ref b1), .val (.ref b2), .val (.int 8)] [(.int 8), (.ref b2), (.int (own_by (cf1 8)))])) rfl rfl (hb hby d19_20) _ ?_
                    show Steps p.tables e below (s₁.setTop (mkF m 21 #[.val (.ref b1), .val (.ref b2), .val (.int 8)] [(.int (own_by (cf2 8))), (.int (own_by (cf1 8)))])) _
                    exact kq)
                  by_cases hc1002 : (own_by (cf1 8)) = (own_by (cf2 8))
                  · have G1003 : Go p e below A0 (s₁.setTop (mkF m 11 #[.val (.ref b1), .val (.ref b2), .val (.int 9)] [(.ref b1), (.int 9)])) := fun tq kq => G1001 tq (by
                      refine XS.icmpYes X0.here hx rfl (pc0 := 21) (pc' := 26) rfl (hb hby d19_21) rfl (teq hc1002).1 (by decide) (by decide) ?_
                      refine XS.iinc X0.here hx rfl (hb hby d19_26) rfl (l' := #[.val (.ref b1), .val (.ref b2), .val (.int ((8 : Int32) + (1 : Int32)))]) rfl ?_
                      show Steps p.tables e below (s₁.setTop (mkF m 29 #[.val (.ref b1), .val (.ref b2), .val (.int ((8 : Int32) + (1 : Int32)))] [])) _
                      rw [show ((8 : Int32) + (1 : Int32)) = (9 : Int32) from (by decide : ((8 : Int32) + (1 : Int32)) = (9 : Int32))]
                      show Steps p.tables e below (s₁.setTop (mkF m 29 #[.val (.ref b1), .val (.ref b2), .val (.int 9)] [])) _
                      refine XS.goto X0.here hx rfl (pc0 := 29) (pc' := 9) rfl (hb hby d19_29) (by decide) (by decide) ?_
                      refine XS.iloadN X0.here hx rfl (hb hby d19_9) rfl ?_
                      refine XS.aloadN X0.here hx rfl (hb hby d19_10) rfl rfl ?_
                      exact kq)
                    obtain ⟨cl1004, Ar1004, q1004, S1004, M1004, H1004⟩ := id A1
                    have G1005 : Go p e below A0 (s₁.setTop (mkF m 33 #[.val (.ref b1), .val (.ref b2), .val (.int 9)] [(.int 1)])) := fun tq kq => G1003 tq (by
                      refine X0.arraylength hx (by rw [e0]; exact Ar1004.1) (State.isArrayOf_alike hZ.alike Ar1004.2.1) (g := (mkF m 11 #[.val (.ref b1), .val (.ref b2), .val (.int 9)] [(.ref b1), (.int 9)])) rfl rfl (hb hby d19_11) _ ?_
                      rw [len_of S1004 M1004]
                      show Steps p.tables e below (s₁.setTop (mkF m 12 #[.val (.ref b1), .val (.ref b2), .val (.int 9)] [(.int 9), (.int 9)])) _
                      refine XS.icmpYes X0.here hx rfl (pc0 := 12) (pc' := 32) rfl (hb hby d19_12) rfl (by decide) (by decide) (by decide) ?_
                      refine XS.iconst X0.here hx rfl (hb hby d19_32) ?_
                      exact kq)
                    obtain ⟨fs, hr, hrun, hended, hW, hsame⟩ := X0.leave (v := some (.int (nar .boolean (1 : Int32)))) (fun h => by rw [Bd.returns] at h; cases h)
                    refine ⟨_, _, (by rw [← hA0]; exact G1005 _ (retN X0 hx (t := .boolean) Bd.returns (by simp) (hb hby d19_33) hr)), hrun, hended, _, _, rfl, ?_, ⟨_, rfl⟩, hW, hsame.mono (by decide) (by decide)⟩
                    exact ⟨(by rw [own_bt (P := (own_eqf 9 cf1 cf2)) (own_all9 hc922 hc932 hc942 hc952 hc962 hc972 hc982 hc992 hc1002)]; rfl), N0, e0⟩
                  · have G1006 : Go p e below A0 (s₁.setTop (mkF m 25 #[.val (.ref b1), .val (.ref b2), .val (.int 8)] [(.int 0)])) := fun tq kq => G1001 tq (by
                      refine XS.icmpNo X0.here hx rfl (hb hby d19_21) rfl (feq hc1002).1 ?_
                      refine XS.iconst X0.here hx rfl (hb hby d19_24) ?_
                      exact kq)
                    obtain ⟨fs, hr, hrun, hended, hW, hsame⟩ := X0.leave (v := some (.int (nar .boolean (0 : Int32)))) (fun h => by rw [Bd.returns] at h; cases h)
                    refine ⟨_, _, (by rw [← hA0]; exact G1006 _ (retN X0 hx (t := .boolean) Bd.returns (by simp) (hb hby d19_25) hr)), hrun, hended, _, _, rfl, ?_, ⟨_, rfl⟩, hW, hsame.mono (by decide) (by decide)⟩
                    exact ⟨(by rw [own_b0 (P := (own_eqf 9 cf1 cf2)) (fun q => hc1002 (q 8 (by decide)))]; rfl), N0, e0⟩
                · have G1007 : Go p e below A0 (s₁.setTop (mkF m 25 #[.val (.ref b1), .val (.ref b2), .val (.int 7)] [(.int 0)])) := fun tq kq => G991 tq (by
                    refine XS.icmpNo X0.here hx rfl (hb hby d19_21) rfl (feq hc992).1 ?_
                    refine XS.iconst X0.here hx rfl (hb hby d19_24) ?_
                    exact kq)
                  obtain ⟨fs, hr, hrun, hended, hW, hsame⟩ := X0.leave (v := some (.int (nar .boolean (0 : Int32)))) (fun h => by rw [Bd.returns] at h; cases h)
                  refine ⟨_, _, (by rw [← hA0]; exact G1007 _ (retN X0 hx (t := .boolean) Bd.returns (by simp) (hb hby d19_25) hr)), hrun, hended, _, _, rfl, ?_, ⟨_, rfl⟩, hW, hsame.mono (by decide) (by decide)⟩
                  exact ⟨(by rw [own_b0 (P := (own_eqf 9 cf1 cf2)) (fun q => hc992 (q 7 (by decide)))]; rfl), N0, e0⟩
              · have G1008 : Go p e below A0 (s₁.setTop (mkF m 25 #[.val (.ref b1), .val (.ref b2), .val (.int 6)] [(.int 0)])) := fun tq kq => G981 tq (by
                  refine XS.icmpNo X0.here hx rfl (hb hby d19_21) rfl (feq hc982).1 ?_
                  refine XS.iconst X0.here hx rfl (hb hby d19_24) ?_
                  exact kq)
                obtain ⟨fs, hr, hrun, hended, hW, hsame⟩ := X0.leave (v := some (.int (nar .boolean (0 : Int32)))) (fun h => by rw [Bd.returns] at h; cases h)
                refine ⟨_, _, (by rw [← hA0]; exact G1008 _ (retN X0 hx (t := .boolean) Bd.returns (by simp) (hb hby d19_25) hr)), hrun, hended, _, _, rfl, ?_, ⟨_, rfl⟩, hW, hsame.mono (by decide) (by decide)⟩
                exact ⟨(by rw [own_b0 (P := (own_eqf 9 cf1 cf2)) (fun q => hc982 (q 6 (by decide)))]; rfl), N0, e0⟩
            · have G1009 : Go p e below A0 (s₁.setTop (mkF m 25 #[.val (.ref b1), .val (.ref b2), .val (.int 5)] [(.int 0)])) := fun tq kq => G971 tq (by
                refine XS.icmpNo X0.here hx rfl (hb hby d19_21) rfl (feq hc972).1 ?_
                refine XS.iconst X0.here hx rfl (hb hby d19_24) ?_
                exact kq)
              obtain ⟨fs, hr, hrun, hended, hW, hsame⟩ := X0.leave (v := some (.int (nar .boolean (0 : Int32)))) (fun h => by rw [Bd.returns] at h; cases h)
              refine ⟨_, _, (by rw [← hA0]; exact G1009 _ (retN X0 hx (t := .boolean) Bd.returns (by simp) (hb hby d19_25) hr)), hrun, hended, _, _, rfl, ?_, ⟨_, rfl⟩, hW, hsame.mono (by decide) (by decide)⟩
              exact ⟨(by rw [own_b0 (P := (own_eqf 9 cf1 cf2)) (fun q => hc972 (q 5 (by decide)))]; rfl), N0, e0⟩
          · have G1010 : Go p e below A0 (s₁.setTop (mkF m 25 #[.val (.ref b1), .val (.ref b2), .val (.int 4)] [(.int 0)])) := fun tq kq => G961 tq (by
              refine XS.icmpNo X0.here hx rfl (hb hby d19_21) rfl (feq hc962).1 ?_
              refine XS.iconst X0.here hx rfl (hb hby d19_24) ?_
              exact kq)
            obtain ⟨fs, hr, hrun, hended, hW, hsame⟩ := X0.leave (v := some (.int (nar .boolean (0 : Int32)))) (fun h => by rw [Bd.returns] at h; cases h)
            refine ⟨_, _, (by rw [← hA0]; exact G1010 _ (retN X0 hx (t := .boolean) Bd.returns (by simp) (hb hby d19_25) hr)), hrun, hended, _, _, rfl, ?_, ⟨_, rfl⟩, hW, hsame.mono (by decide) (by decide)⟩
            exact ⟨(by rw [own_b0 (P := (own_eqf 9 cf1 cf2)) (fun q => hc962 (q 4 (by decide)))]; rfl), N0, e0⟩
        · have G1011 : Go p e below A0 (s₁.setTop (mkF m 25 #[.val (.ref b1), .val (.ref b2), .val (.int 3)] [(.int 0)])) := fun tq kq => G951 tq (by
            refine XS.icmpNo X0.here hx rfl (hb hby d19_21) rfl (feq hc952).1 ?_
            refine XS.iconst X0.here hx rfl (hb hby d19_24) ?_
            exact kq)
          obtain ⟨fs, hr, hrun, hended, hW, hsame⟩ := X0.leave (v := some (.int (nar .boolean (0 : Int32)))) (fun h => by rw [Bd.returns] at h; cases h)
          refine ⟨_, _, (by rw [← hA0]; exact G1011 _ (retN X0 hx (t := .boolean) Bd.returns (by simp) (hb hby d19_25) hr)), hrun, hended, _, _, rfl, ?_, ⟨_, rfl⟩, hW, hsame.mono (by decide) (by decide)⟩
          exact ⟨(by rw [own_b0 (P := (own_eqf 9 cf1 cf2)) (fun q => hc952 (q 3 (by decide)))]; rfl), N0, e0⟩
      · have G1012 : Go p e below A0 (s₁.setTop (mkF m 25 #[.val (.ref b1), .val (.ref b2), .val (.int 2)] [(.int 0)])) := fun tq kq => G941 tq (by
          refine XS.icmpNo X0.here hx rfl (hb hby d19_21) rfl (feq hc942).1 ?_
          refine XS.iconst X0.here hx rfl (hb hby d19_24) ?_
          exact kq)
        obtain ⟨fs, hr, hrun, hended, hW, hsame⟩ := X0.leave (v := some (.int (nar .boolean (0 : Int32)))) (fun h => by rw [Bd.returns] at h; cases h)
        refine ⟨_, _, (by rw [← hA0]; exact G1012 _ (retN X0 hx (t := .boolean) Bd.returns (by simp) (hb hby d19_25) hr)), hrun, hended, _, _, rfl, ?_, ⟨_, rfl⟩, hW, hsame.mono (by decide) (by decide)⟩
        exact ⟨(by rw [own_b0 (P := (own_eqf 9 cf1 cf2)) (fun q => hc942 (q 2 (by decide)))]; rfl), N0, e0⟩
    · have G1013 : Go p e below A0 (s₁.setTop (mkF m 25 #[.val (.ref b1), .val (.ref b2), .val (.int 1)] [(.int 0)])) := fun tq kq => G931 tq (by
        refine XS.icmpNo X0.here hx rfl (hb hby d19_21) rfl (feq hc932).1 ?_
        refine XS.iconst X0.here hx rfl (hb hby d19_24) ?_
        exact kq)
      obtain ⟨fs, hr, hrun, hended, hW, hsame⟩ := X0.leave (v := some (.int (nar .boolean (0 : Int32)))) (fun h => by rw [Bd.returns] at h; cases h)
      refine ⟨_, _, (by rw [← hA0]; exact G1013 _ (retN X0 hx (t := .boolean) Bd.returns (by simp) (hb hby d19_25) hr)), hrun, hended, _, _, rfl, ?_, ⟨_, rfl⟩, hW, hsame.mono (by decide) (by decide)⟩
      exact ⟨(by rw [own_b0 (P := (own_eqf 9 cf1 cf2)) (fun q => hc932 (q 1 (by decide)))]; rfl), N0, e0⟩
  · have G1014 : Go p e below A0 (s₁.setTop (mkF m 25 #[.val (.ref b1), .val (.ref b2), .val (.int 0)] [(.int 0)])) := fun tq kq => G921 tq (by
      refine XS.icmpNo X0.here hx rfl (hb hby d19_21) rfl (feq hc922).1 ?_
      refine XS.iconst X0.here hx rfl (hb hby d19_24) ?_
      exact kq)
    obtain ⟨fs, hr, hrun, hended, hW, hsame⟩ := X0.leave (v := some (.int (nar .boolean (0 : Int32)))) (fun h => by rw [Bd.returns] at h; cases h)
    refine ⟨_, _, (by rw [← hA0]; exact G1014 _ (retN X0 hx (t := .boolean) Bd.returns (by simp) (hb hby d19_25) hr)), hrun, hended, _, _, rfl, ?_, ⟨_, rfl⟩, hW, hsame.mono (by decide) (by decide)⟩
    exact ⟨(by rw [own_b0 (P := (own_eqf 9 cf1 cf2)) (fun q => hc922 (q 0 (by decide)))]; rfl), N0, e0⟩
set_option maxRecDepth 65536 in
set_option maxHeartbeats 40000000 in
theorem rmSE11 (l : Launch) (Z : State) (a0 : Array Value) (hw : ∀ d ∈ tables_1, d.before a0 Z = true) (ws : List Jvm.Cond) (b1 b2 : Addr) (k1 k2 : ClassId) (cf1 cf2 : Nat → Int32) (h0 : Heap) (n0 : Nat) (Z0 : n0 ≤ h0.size) (A1 : Af Z h0 b1 k1 .byte (11 : Int32) (fun j => .int (own_by (cf1 j)))) (A2 : Af Z h0 b2 k2 .byte (11 : Int32) (fun j => .int (own_by (cf2 j)))) :
    MetFree l (⟨"java/lang/StringLatin1", "equals", "([B[B)Z"⟩ : MethodName) (head1 (Jvm.Cond.code (⟨"java/lang/StringLatin1", "equals", "([B[B)Z"⟩ : MethodName) jdk_43_method_13_code 3 (some .boolean) :: ws) (Rm 0 0 0 0)) (fun aa UU => aa = #[(.ref b1), (.ref b2)] ∧ Z.Warmed39 UU.vm ∧ UU.heap = h0) (fun _ _ _ _ _ => True) (fun _ UU oo U' => ∃ v L, oo = .returned v ∧ Qr (.int (own_b (own_eqf 11 cf1 cf2))) h0 n0 v U'.heap L ∧ FrameEnd UU oo U' L (Rm 0 0 0 0).cells (Rm 0 0 0 0).slots) := by
  refine MetFree.of_bodySF (plainFor_of_name pn_2) hisR ?_
  intro p e s m args below meth c s₁ Bd hml0 hP hK
  obtain ⟨rfl, hZ, hh⟩ := hP
  have hx := Bd.exec
  have hby := Bd.bytes
  have hml : c.maxLocals = 3 := hml0
  have hown : s.vm.findClass "java/lang/StringLatin1" = some m.cls := findClass_of_methodNamed Bd.named
  have hnm := (name_of_methodNamed Bd.named Bd.method).1
  have X0 : Stand p l e (Rm 0 0 0 0) s m #[(.ref b1), (.ref b2)] below meth c s₁ [] 0 0 := Stand.of_body Bd
  have e0 : s₁.heap = h0 := by rw [← hh, Bd.state]; rfl
  have N0 := Fr.nil n0
  obtain ⟨A0, hA0⟩ : ∃ A, A = s₁.setTop (entryFrame m #[(.ref b1), (.ref b2)] 3) := ⟨_, rfl⟩
  have G0 : Go p e below A0 (s₁.setTop (mkF m 0 #[.val (.ref b1), .val (.ref b2), .unset] [])) := fun tq kq => by rw [hA0]; exact castTop (ef_rmSE11 m b1 b2) kq
  have G1015 : Go p e below A0 (s₁.setTop (mkF m 1 #[.val (.ref b1), .val (.ref b2), .unset] [(.ref b1)])) := fun tq kq => G0 tq (by
    refine XS.aloadN X0.here hx rfl (hb hby d19_0) rfl rfl ?_
    exact kq)
  obtain ⟨cl1016, Ar1016, q1016, S1016, M1016, H1016⟩ := id A1
  have G1017 : Go p e below A0 (s₁.setTop (mkF m 3 #[.val (.ref b1), .val (.ref b2), .unset] [(.ref b2), (.int 11)])) := fun tq kq => G1015 tq (by
    refine X0.arraylength hx (by rw [e0]; exact Ar1016.1) (State.isArrayOf_alike hZ.alike Ar1016.2.1) (g := (mkF m 1 #[.val (.ref b1), .val (.ref b2), .unset] [(.ref b1)])) rfl rfl (hb hby d19_1) _ ?_
    rw [len_of S1016 M1016]
    show Steps p.tables e below (s₁.setTop (mkF m 2 #[.val (.ref b1), .val (.ref b2), .unset] [(.int 11)])) _
    refine XS.aloadN X0.here hx rfl (hb hby d19_2) rfl rfl ?_
    exact kq)
  obtain ⟨cl1018, Ar1018, q1018, S1018, M1018, H1018⟩ := id A2
  have G1019 : Go p e below A0 (s₁.setTop (mkF m 11 #[.val (.ref b1), .val (.ref b2), .val (.int 0)] [(.ref b1), (.int 0)])) := fun tq kq => G1017 tq (by
    refine X0.arraylength hx (by rw [e0]; exact Ar1018.1) (State.isArrayOf_alike hZ.alike Ar1018.2.1) (g := (mkF m 3 #[.val (.ref b1), .val (.ref b2), .unset] [(.ref b2), (.int 11)])) rfl rfl (hb hby d19_3) _ ?_
    rw [len_of S1018 M1018]
    show Steps p.tables e below (s₁.setTop (mkF m 4 #[.val (.ref b1), .val (.ref b2), .unset] [(.int 11), (.int 11)])) _
    refine XS.icmpNo X0.here hx rfl (hb hby d19_4) rfl (by decide) ?_
    refine XS.iconst X0.here hx rfl (hb hby d19_7) ?_
    refine XS.istoreN X0.here hx rfl (hb hby d19_8) rfl (l' := #[.val (.ref b1), .val (.ref b2), .val (.int 0)]) rfl ?_
    refine XS.iloadN X0.here hx rfl (hb hby d19_9) rfl ?_
    refine XS.aloadN X0.here hx rfl (hb hby d19_10) rfl rfl ?_
    exact kq)
  obtain ⟨cl1020, Ar1020, q1020, S1020, M1020, H1020⟩ := id A1
  have G1021 : Go p e below A0 (s₁.setTop (mkF m 17 #[.val (.ref b1), .val (.ref b2), .val (.int 0)] [(.int 0), (.ref b1)])) := fun tq kq => G1019 tq (by
    refine X0.arraylength hx (by rw [e0]; exact Ar1020.1) (State.isArrayOf_alike hZ.alike Ar1020.2.1) (g := (mkF m 11 #[.val (.ref b1), .val (.ref b2), .val (.int 0)] [(.ref b1), (.int 0)])) rfl rfl (hb hby d19_11) _ ?_
    rw [len_of S1020 M1020]
    show Steps p.tables e below (s₁.setTop (mkF m 12 #[.val (.ref b1), .val (.ref b2), .val (.int 0)] [(.int 11), (.int 0)])) _
    refine XS.icmpNo X0.here hx rfl (hb hby d19_12) rfl (by decide) ?_
    refine XS.aloadN X0.here hx rfl (hb hby d19_15) rfl rfl ?_
    refine XS.iloadN X0.here hx rfl (hb hby d19_16) rfl ?_
    exact kq)
  obtain ⟨cl1022, Ar1022, q1022, S1022, M1022, H1022⟩ := id A1
  have hi1023 : ¬ ((0 : Int32) < 0 ∨ cl1022.slots.size ≤ ((0 : Int32)).toNatClampNeg) := (inb_of S1022 ⟨by decide, by decide⟩)
  have G1024 : Go p e below A0 (s₁.setTop (mkF m 20 #[.val (.ref b1), .val (.ref b2), .val (.int 0)] [(.int 0), (.ref b2), (.int (own_by (cf1 0)))])) := fun tq kq => G1021 tq (by
    refine X0.baloadBytes hx (j := (0 : Int32)) (v := (.int (own_by (cf1 0)))) (by rw [e0]; exact Ar1022.1) (State.isArrayOf_alike hZ.alike Ar1022.2.1) Ar1022.2.2 hi1023 ((H1022 _ (S1022 ▸ Nat.lt_of_not_le fun y => hi1023 (Or.inr y))).trans (congrArg some (congrArg (fun q => Value.int (own_by (cf1 q))) (by decide : ((0 : Int32)).toNatClampNeg = 0)))) (g := (mkF m 17 #[.val (.ref b1), .val (.ref b2), .val (.int 0)] [(.int 0), (.ref b1)])) rfl rfl (hb hby d19_17) _ ?_
    show Steps p.tables e below (s₁.setTop (mkF m 18 #[.val (.ref b1), .val (.ref b2), .val (.int 0)] [(.int (own_by (cf1 0)))])) _
    refine XS.aloadN X0.here hx rfl (hb hby d19_18) rfl rfl ?_
    refine XS.iloadN X0.here hx rfl (hb hby d19_19) rfl ?_
    exact kq)
  obtain ⟨cl1025, Ar1025, q1025, S1025, M1025, H1025⟩ := id A2
  have hi1026 : ¬ ((0 : Int32) < 0 ∨ cl1025.slots.size ≤ ((0 : Int32)).toNatClampNeg) := (inb_of S1025 ⟨by decide, by decide⟩)
  have G1027 : Go p e below A0 (s₁.setTop (mkF m 21 #[.val (.ref b1), .val (.ref b2), .val (.int 0)] [(.int (own_by (cf2 0))), (.int (own_by (cf1 0)))])) := fun tq kq => G1024 tq (by
    refine X0.baloadBytes hx (j := (0 : Int32)) (v := (.int (own_by (cf2 0)))) (by rw [e0]; exact Ar1025.1) (State.isArrayOf_alike hZ.alike Ar1025.2.1) Ar1025.2.2 hi1026 ((H1025 _ (S1025 ▸ Nat.lt_of_not_le fun y => hi1026 (Or.inr y))).trans (congrArg some (congrArg (fun q => Value.int (own_by (cf2 q))) (by decide : ((0 : Int32)).toNatClampNeg = 0)))) (g := (mkF m 20 #[.val (.ref b1), .val (.ref b2), .val (.int 0)] [(.int 0), (.ref b2), (.int (own_by (cf1 0)))])) rfl rfl (hb hby d19_20) _ ?_
    show Steps p.tables e below (s₁.setTop (mkF m 21 #[.val (.ref b1), .val (.ref b2), .val (.int 0)] [(.int (own_by (cf2 0))), (.int (own_by (cf1 0)))])) _
    exact kq)
  by_cases hc1028 : (own_by (cf1 0)) = (own_by (cf2 0))
  · have G1029 : Go p e below A0 (s₁.setTop (mkF m 11 #[.val (.ref b1), .val (.ref b2), .val (.int 1)] [(.ref b1), (.int 1)])) := fun tq kq => G1027 tq (by
      refine XS.icmpYes X0.here hx rfl (pc0 := 21) (pc' := 26) rfl (hb hby d19_21) rfl (teq hc1028).1 (by decide) (by decide) ?_
      refine XS.iinc X0.here hx rfl (hb hby d19_26) rfl (l' := #[.val (.ref b1), .val (.ref b2), .val (.int ((0 : Int32) + (1 : Int32)))]) rfl ?_
      show Steps p.tables e below (s₁.setTop (mkF m 29 #[.val (.ref b1), .val (.ref b2), .val (.int ((0 : Int32) + (1 : Int32)))] [])) _
      rw [show ((0 : Int32) + (1 : Int32)) = (1 : Int32) from (by decide : ((0 : Int32) + (1 : Int32)) = (1 : Int32))]
      show Steps p.tables e below (s₁.setTop (mkF m 29 #[.val (.ref b1), .val (.ref b2), .val (.int 1)] [])) _
      refine XS.goto X0.here hx rfl (pc0 := 29) (pc' := 9) rfl (hb hby d19_29) (by decide) (by decide) ?_
      refine XS.iloadN X0.here hx rfl (hb hby d19_9) rfl ?_
      refine XS.aloadN X0.here hx rfl (hb hby d19_10) rfl rfl ?_
      exact kq)
    obtain ⟨cl1030, Ar1030, q1030, S1030, M1030, H1030⟩ := id A1
    have G1031 : Go p e below A0 (s₁.setTop (mkF m 17 #[.val (.ref b1), .val (.ref b2), .val (.int 1)] [(.int 1), (.ref b1)])) := fun tq kq => G1029 tq (by
      refine X0.arraylength hx (by rw [e0]; exact Ar1030.1) (State.isArrayOf_alike hZ.alike Ar1030.2.1) (g := (mkF m 11 #[.val (.ref b1), .val (.ref b2), .val (.int 1)] [(.ref b1), (.int 1)])) rfl rfl (hb hby d19_11) _ ?_
      rw [len_of S1030 M1030]
      show Steps p.tables e below (s₁.setTop (mkF m 12 #[.val (.ref b1), .val (.ref b2), .val (.int 1)] [(.int 11), (.int 1)])) _
      refine XS.icmpNo X0.here hx rfl (hb hby d19_12) rfl (by decide) ?_
      refine XS.aloadN X0.here hx rfl (hb hby d19_15) rfl rfl ?_
      refine XS.iloadN X0.here hx rfl (hb hby d19_16) rfl ?_
      exact kq)
    obtain ⟨cl1032, Ar1032, q1032, S1032, M1032, H1032⟩ := id A1
    have hi1033 : ¬ ((1 : Int32) < 0 ∨ cl1032.slots.size ≤ ((1 : Int32)).toNatClampNeg) := (inb_of S1032 ⟨by decide, by decide⟩)
    have G1034 : Go p e below A0 (s₁.setTop (mkF m 20 #[.val (.ref b1), .val (.ref b2), .val (.int 1)] [(.int 1), (.ref b2), (.int (own_by (cf1 1)))])) := fun tq kq => G1031 tq (by
      refine X0.baloadBytes hx (j := (1 : Int32)) (v := (.int (own_by (cf1 1)))) (by rw [e0]; exact Ar1032.1) (State.isArrayOf_alike hZ.alike Ar1032.2.1) Ar1032.2.2 hi1033 ((H1032 _ (S1032 ▸ Nat.lt_of_not_le fun y => hi1033 (Or.inr y))).trans (congrArg some (congrArg (fun q => Value.int (own_by (cf1 q))) (by decide : ((1 : Int32)).toNatClampNeg = 1)))) (g := (mkF m 17 #[.val (.ref b1), .val (.ref b2), .val (.int 1)] [(.int 1), (.ref b1)])) rfl rfl (hb hby d19_17) _ ?_
      show Steps p.tables e below (s₁.setTop (mkF m 18 #[.val (.ref b1), .val (.ref b2), .val (.int 1)] [(.int (own_by (cf1 1)))])) _
      refine XS.aloadN X0.here hx rfl (hb hby d19_18) rfl rfl ?_
      refine XS.iloadN X0.here hx rfl (hb hby d19_19) rfl ?_
      exact kq)
    obtain ⟨cl1035, Ar1035, q1035, S1035, M1035, H1035⟩ := id A2
    have hi1036 : ¬ ((1 : Int32) < 0 ∨ cl1035.slots.size ≤ ((1 : Int32)).toNatClampNeg) := (inb_of S1035 ⟨by decide, by decide⟩)
    have G1037 : Go p e below A0 (s₁.setTop (mkF m 21 #[.val (.ref b1), .val (.ref b2), .val (.int 1)] [(.int (own_by (cf2 1))), (.int (own_by (cf1 1)))])) := fun tq kq => G1034 tq (by
      refine X0.baloadBytes hx (j := (1 : Int32)) (v := (.int (own_by (cf2 1)))) (by rw [e0]; exact Ar1035.1) (State.isArrayOf_alike hZ.alike Ar1035.2.1) Ar1035.2.2 hi1036 ((H1035 _ (S1035 ▸ Nat.lt_of_not_le fun y => hi1036 (Or.inr y))).trans (congrArg some (congrArg (fun q => Value.int (own_by (cf2 q))) (by decide : ((1 : Int32)).toNatClampNeg = 1)))) (g := (mkF m 20 #[.val (.ref b1), .val (.ref b2), .val (.int 1)] [(.int 1), (.ref b2), (.int (own_by (cf1 1)))])) rfl rfl (hb hby d19_20) _ ?_
      show Steps p.tables e below (s₁.setTop (mkF m 21 #[.val (.ref b1), .val (.ref b2), .val (.int 1)] [(.int (own_by (cf2 1))), (.int (own_by (cf1 1)))])) _
      exact kq)
    by_cases hc1038 : (own_by (cf1 1)) = (own_by (cf2 1))
    · have G1039 : Go p e below A0 (s₁.setTop (mkF m 11 #[.val (.ref b1), .val (.ref b2), .val (.int 2)] [(.ref b1), (.int 2)])) := fun tq kq => G1037 tq (by
        refine XS.icmpYes X0.here hx rfl (pc0 := 21) (pc' := 26) rfl (hb hby d19_21) rfl (teq hc1038).1 (by decide) (by decide) ?_
        refine XS.iinc X0.here hx rfl (hb hby d19_26) rfl (l' := #[.val (.ref b1), .val (.ref b2), .val (.int ((1 : Int32) + (1 : Int32)))]) rfl ?_
        show Steps p.tables e below (s₁.setTop (mkF m 29 #[.val (.ref b1), .val (.ref b2), .val (.int ((1 : Int32) + (1 : Int32)))] [])) _
        rw [show ((1 : Int32) + (1 : Int32)) = (2 : Int32) from (by decide : ((1 : Int32) + (1 : Int32)) = (2 : Int32))]
        show Steps p.tables e below (s₁.setTop (mkF m 29 #[.val (.ref b1), .val (.ref b2), .val (.int 2)] [])) _
        refine XS.goto X0.here hx rfl (pc0 := 29) (pc' := 9) rfl (hb hby d19_29) (by decide) (by decide) ?_
        refine XS.iloadN X0.here hx rfl (hb hby d19_9) rfl ?_
        refine XS.aloadN X0.here hx rfl (hb hby d19_10) rfl rfl ?_
        exact kq)
      obtain ⟨cl1040, Ar1040, q1040, S1040, M1040, H1040⟩ := id A1
      have G1041 : Go p e below A0 (s₁.setTop (mkF m 17 #[.val (.ref b1), .val (.ref b2), .val (.int 2)] [(.int 2), (.ref b1)])) := fun tq kq => G1039 tq (by
        refine X0.arraylength hx (by rw [e0]; exact Ar1040.1) (State.isArrayOf_alike hZ.alike Ar1040.2.1) (g := (mkF m 11 #[.val (.ref b1), .val (.ref b2), .val (.int 2)] [(.ref b1), (.int 2)])) rfl rfl (hb hby d19_11) _ ?_
        rw [len_of S1040 M1040]
        show Steps p.tables e below (s₁.setTop (mkF m 12 #[.val (.ref b1), .val (.ref b2), .val (.int 2)] [(.int 11), (.int 2)])) _
        refine XS.icmpNo X0.here hx rfl (hb hby d19_12) rfl (by decide) ?_
        refine XS.aloadN X0.here hx rfl (hb hby d19_15) rfl rfl ?_
        refine XS.iloadN X0.here hx rfl (hb hby d19_16) rfl ?_
        exact kq)
      obtain ⟨cl1042, Ar1042, q1042, S1042, M1042, H1042⟩ := id A1
      have hi1043 : ¬ ((2 : Int32) < 0 ∨ cl1042.slots.size ≤ ((2 : Int32)).toNatClampNeg) := (inb_of S1042 ⟨by decide, by decide⟩)
      have G1044 : Go p e below A0 (s₁.setTop (mkF m 20 #[.val (.ref b1), .val (.ref b2), .val (.int 2)] [(.int 2), (.ref b2), (.int (own_by (cf1 2)))])) := fun tq kq => G1041 tq (by
        refine X0.baloadBytes hx (j := (2 : Int32)) (v := (.int (own_by (cf1 2)))) (by rw [e0]; exact Ar1042.1) (State.isArrayOf_alike hZ.alike Ar1042.2.1) Ar1042.2.2 hi1043 ((H1042 _ (S1042 ▸ Nat.lt_of_not_le fun y => hi1043 (Or.inr y))).trans (congrArg some (congrArg (fun q => Value.int (own_by (cf1 q))) (by decide : ((2 : Int32)).toNatClampNeg = 2)))) (g := (mkF m 17 #[.val (.ref b1), .val (.ref b2), .val (.int 2)] [(.int 2), (.ref b1)])) rfl rfl (hb hby d19_17) _ ?_
        show Steps p.tables e below (s₁.setTop (mkF m 18 #[.val (.ref b1), .val (.ref b2), .val (.int 2)] [(.int (own_by (cf1 2)))])) _
        refine XS.aloadN X0.here hx rfl (hb hby d19_18) rfl rfl ?_
        refine XS.iloadN X0.here hx rfl (hb hby d19_19) rfl ?_
        exact kq)
      obtain ⟨cl1045, Ar1045, q1045, S1045, M1045, H1045⟩ := id A2
      have hi1046 : ¬ ((2 : Int32) < 0 ∨ cl1045.slots.size ≤ ((2 : Int32)).toNatClampNeg) := (inb_of S1045 ⟨by decide, by decide⟩)
      have G1047 : Go p e below A0 (s₁.setTop (mkF m 21 #[.val (.ref b1), .val (.ref b2), .val (.int 2)] [(.int (own_by (cf2 2))), (.int (own_by (cf1 2)))])) := fun tq kq => G1044 tq (by
        refine X0.baloadBytes hx (j := (2 : Int32)) (v := (.int (own_by (cf2 2)))) (by rw [e0]; exact Ar1045.1) (State.isArrayOf_alike hZ.alike Ar1045.2.1) Ar1045.2.2 hi1046 ((H1045 _ (S1045 ▸ Nat.lt_of_not_le fun y => hi1046 (Or.inr y))).trans (congrArg some (congrArg (fun q => Value.int (own_by (cf2 q))) (by decide : ((2 : Int32)).toNatClampNeg = 2)))) (g := (mkF m 20 #[.val (.ref b1), .val (.ref b2), .val (.int 2)] [(.int 2), (.ref b2), (.int (own_by (cf1 2)))])) rfl rfl (hb hby d19_20) _ ?_
        show Steps p.tables e below (s₁.setTop (mkF m 21 #[.val (.ref b1), .val (.ref b2), .val (.int 2)] [(.int (own_by (cf2 2))), (.int (own_by (cf1 2)))])) _
        exact kq)
      by_cases hc1048 : (own_by (cf1 2)) = (own_by (cf2 2))
      · have G1049 : Go p e below A0 (s₁.setTop (mkF m 11 #[.val (.ref b1), .val (.ref b2), .val (.int 3)] [(.ref b1), (.int 3)])) := fun tq kq => G1047 tq (by
          refine XS.icmpYes X0.here hx rfl (pc0 := 21) (pc' := 26) rfl (hb hby d19_21) rfl (teq hc1048).1 (by decide) (by decide) ?_
          refine XS.iinc X0.here hx rfl (hb hby d19_26) rfl (l' := #[.val (.ref b1), .val (.ref b2), .val (.int ((2 : Int32) + (1 : Int32)))]) rfl ?_
          show Steps p.tables e below (s₁.setTop (mkF m 29 #[.val (.ref b1), .val (.ref b2), .val (.int ((2 : Int32) + (1 : Int32)))] [])) _
          rw [show ((2 : Int32) + (1 : Int32)) = (3 : Int32) from (by decide : ((2 : Int32) + (1 : Int32)) = (3 : Int32))]
          show Steps p.tables e below (s₁.setTop (mkF m 29 #[.val (.ref b1), .val (.ref b2), .val (.int 3)] [])) _
          refine XS.goto X0.here hx rfl (pc0 := 29) (pc' := 9) rfl (hb hby d19_29) (by decide) (by decide) ?_
          refine XS.iloadN X0.here hx rfl (hb hby d19_9) rfl ?_
          refine XS.aloadN X0.here hx rfl (hb hby d19_10) rfl rfl ?_
          exact kq)
        obtain ⟨cl1050, Ar1050, q1050, S1050, M1050, H1050⟩ := id A1
        have G1051 : Go p e below A0 (s₁.setTop (mkF m 17 #[.val (.ref b1), .val (.ref b2), .val (.int 3)] [(.int 3), (.ref b1)])) := fun tq kq => G1049 tq (by
          refine X0.arraylength hx (by rw [e0]; exact Ar1050.1) (State.isArrayOf_alike hZ.alike Ar1050.2.1) (g := (mkF m 11 #[.val (.ref b1), .val (.ref b2), .val (.int 3)] [(.ref b1), (.int 3)])) rfl rfl (hb hby d19_11) _ ?_
          rw [len_of S1050 M1050]
          show Steps p.tables e below (s₁.setTop (mkF m 12 #[.val (.ref b1), .val (.ref b2), .val (.int 3)] [(.int 11), (.int 3)])) _
          refine XS.icmpNo X0.here hx rfl (hb hby d19_12) rfl (by decide) ?_
          refine XS.aloadN X0.here hx rfl (hb hby d19_15) rfl rfl ?_
          refine XS.iloadN X0.here hx rfl (hb hby d19_16) rfl ?_
          exact kq)
        obtain ⟨cl1052, Ar1052, q1052, S1052, M1052, H1052⟩ := id A1
        have hi1053 : ¬ ((3 : Int32) < 0 ∨ cl1052.slots.size ≤ ((3 : Int32)).toNatClampNeg) := (inb_of S1052 ⟨by decide, by decide⟩)
        have G1054 : Go p e below A0 (s₁.setTop (mkF m 20 #[.val (.ref b1), .val (.ref b2), .val (.int 3)] [(.int 3), (.ref b2), (.int (own_by (cf1 3)))])) := fun tq kq => G1051 tq (by
          refine X0.baloadBytes hx (j := (3 : Int32)) (v := (.int (own_by (cf1 3)))) (by rw [e0]; exact Ar1052.1) (State.isArrayOf_alike hZ.alike Ar1052.2.1) Ar1052.2.2 hi1053 ((H1052 _ (S1052 ▸ Nat.lt_of_not_le fun y => hi1053 (Or.inr y))).trans (congrArg some (congrArg (fun q => Value.int (own_by (cf1 q))) (by decide : ((3 : Int32)).toNatClampNeg = 3)))) (g := (mkF m 17 #[.val (.ref b1), .val (.ref b2), .val (.int 3)] [(.int 3), (.ref b1)])) rfl rfl (hb hby d19_17) _ ?_
          show Steps p.tables e below (s₁.setTop (mkF m 18 #[.val (.ref b1), .val (.ref b2), .val (.int 3)] [(.int (own_by (cf1 3)))])) _
          refine XS.aloadN X0.here hx rfl (hb hby d19_18) rfl rfl ?_
          refine XS.iloadN X0.here hx rfl (hb hby d19_19) rfl ?_
          exact kq)
        obtain ⟨cl1055, Ar1055, q1055, S1055, M1055, H1055⟩ := id A2
        have hi1056 : ¬ ((3 : Int32) < 0 ∨ cl1055.slots.size ≤ ((3 : Int32)).toNatClampNeg) := (inb_of S1055 ⟨by decide, by decide⟩)
        have G1057 : Go p e below A0 (s₁.setTop (mkF m 21 #[.val (.ref b1), .val (.ref b2), .val (.int 3)] [(.int (own_by (cf2 3))), (.int (own_by (cf1 3)))])) := fun tq kq => G1054 tq (by
          refine X0.baloadBytes hx (j := (3 : Int32)) (v := (.int (own_by (cf2 3)))) (by rw [e0]; exact Ar1055.1) (State.isArrayOf_alike hZ.alike Ar1055.2.1) Ar1055.2.2 hi1056 ((H1055 _ (S1055 ▸ Nat.lt_of_not_le fun y => hi1056 (Or.inr y))).trans (congrArg some (congrArg (fun q => Value.int (own_by (cf2 q))) (by decide : ((3 : Int32)).toNatClampNeg = 3)))) (g := (mkF m 20 #[.val (.ref b1), .val (.ref b2), .val (.int 3)] [(.int 3), (.ref b2), (.int (own_by (cf1 3)))])) rfl rfl (hb hby d19_20) _ ?_
          show Steps p.tables e below (s₁.setTop (mkF m 21 #[.val (.ref b1), .val (.ref b2), .val (.int 3)] [(.int (own_by (cf2 3))), (.int (own_by (cf1 3)))])) _
          exact kq)
        by_cases hc1058 : (own_by (cf1 3)) = (own_by (cf2 3))
        · have G1059 : Go p e below A0 (s₁.setTop (mkF m 11 #[.val (.ref b1), .val (.ref b2), .val (.int 4)] [(.ref b1), (.int 4)])) := fun tq kq => G1057 tq (by
            refine XS.icmpYes X0.here hx rfl (pc0 := 21) (pc' := 26) rfl (hb hby d19_21) rfl (teq hc1058).1 (by decide) (by decide) ?_
            refine XS.iinc X0.here hx rfl (hb hby d19_26) rfl (l' := #[.val (.ref b1), .val (.ref b2), .val (.int ((3 : Int32) + (1 : Int32)))]) rfl ?_
            show Steps p.tables e below (s₁.setTop (mkF m 29 #[.val (.ref b1), .val (.ref b2), .val (.int ((3 : Int32) + (1 : Int32)))] [])) _
            rw [show ((3 : Int32) + (1 : Int32)) = (4 : Int32) from (by decide : ((3 : Int32) + (1 : Int32)) = (4 : Int32))]
            show Steps p.tables e below (s₁.setTop (mkF m 29 #[.val (.ref b1), .val (.ref b2), .val (.int 4)] [])) _
            refine XS.goto X0.here hx rfl (pc0 := 29) (pc' := 9) rfl (hb hby d19_29) (by decide) (by decide) ?_
            refine XS.iloadN X0.here hx rfl (hb hby d19_9) rfl ?_
            refine XS.aloadN X0.here hx rfl (hb hby d19_10) rfl rfl ?_
            exact kq)
          obtain ⟨cl1060, Ar1060, q1060, S1060, M1060, H1060⟩ := id A1
          have G1061 : Go p e below A0 (s₁.setTop (mkF m 17 #[.val (.ref b1), .val (.ref b2), .val (.int 4)] [(.int 4), (.ref b1)])) := fun tq kq => G1059 tq (by
            refine X0.arraylength hx (by rw [e0]; exact Ar1060.1) (State.isArrayOf_alike hZ.alike Ar1060.2.1) (g := (mkF m 11 #[.val (.ref b1), .val (.ref b2), .val (.int 4)] [(.ref b1), (.int 4)])) rfl rfl (hb hby d19_11) _ ?_
            rw [len_of S1060 M1060]
            show Steps p.tables e below (s₁.setTop (mkF m 12 #[.val (.ref b1), .val (.ref b2), .val (.int 4)] [(.int 11), (.int 4)])) _
            refine XS.icmpNo X0.here hx rfl (hb hby d19_12) rfl (by decide) ?_
            refine XS.aloadN X0.here hx rfl (hb hby d19_15) rfl rfl ?_
            refine XS.iloadN X0.here hx rfl (hb hby d19_16) rfl ?_
            exact kq)
          obtain ⟨cl1062, Ar1062, q1062, S1062, M1062, H1062⟩ := id A1
          have hi1063 : ¬ ((4 : Int32) < 0 ∨ cl1062.slots.size ≤ ((4 : Int32)).toNatClampNeg) := (inb_of S1062 ⟨by decide, by decide⟩)
          have G1064 : Go p e below A0 (s₁.setTop (mkF m 20 #[.val (.ref b1), .val (.ref b2), .val (.int 4)] [(.int 4), (.ref b2), (.int (own_by (cf1 4)))])) := fun tq kq => G1061 tq (by
            refine X0.baloadBytes hx (j := (4 : Int32)) (v := (.int (own_by (cf1 4)))) (by rw [e0]; exact Ar1062.1) (State.isArrayOf_alike hZ.alike Ar1062.2.1) Ar1062.2.2 hi1063 ((H1062 _ (S1062 ▸ Nat.lt_of_not_le fun y => hi1063 (Or.inr y))).trans (congrArg some (congrArg (fun q => Value.int (own_by (cf1 q))) (by decide : ((4 : Int32)).toNatClampNeg = 4)))) (g := (mkF m 17 #[.val (.ref b1), .val (.ref b2), .val (.int 4)] [(.int 4), (.ref b1)])) rfl rfl (hb hby d19_17) _ ?_
            show Steps p.tables e below (s₁.setTop (mkF m 18 #[.val (.ref b1), .val (.ref b2), .val (.int 4)] [(.int (own_by (cf1 4)))])) _
            refine XS.aloadN X0.here hx rfl (hb hby d19_18) rfl rfl ?_
            refine XS.iloadN X0.here hx rfl (hb hby d19_19) rfl ?_
            exact kq)
          obtain ⟨cl1065, Ar1065, q1065, S1065, M1065, H1065⟩ := id A2
          have hi1066 : ¬ ((4 : Int32) < 0 ∨ cl1065.slots.size ≤ ((4 : Int32)).toNatClampNeg) := (inb_of S1065 ⟨by decide, by decide⟩)
          have G1067 : Go p e below A0 (s₁.setTop (mkF m 21 #[.val (.ref b1), .val (.ref b2), .val (.int 4)] [(.int (own_by (cf2 4))), (.int (own_by (cf1 4)))])) := fun tq kq => G1064 tq (by
            refine X0.baloadBytes hx (j := (4 : Int32)) (v := (.int (own_by (cf2 4)))) (by rw [e0]; exact Ar1065.1) (State.isArrayOf_alike hZ.alike Ar1065.2.1) Ar1065.2.2 hi1066 ((H1065 _ (S1065 ▸ Nat.lt_of_not_le fun y => hi1066 (Or.inr y))).trans (congrArg some (congrArg (fun q => Value.int (own_by (cf2 q))) (by decide : ((4 : Int32)).toNatClampNeg = 4)))) (g := (mkF m 20 #[.val (.ref b1), .val (.ref b2), .val (.int 4)] [(.int 4), (.ref b2), (.int (own_by (cf1 4)))])) rfl rfl (hb hby d19_20) _ ?_
            show Steps p.tables e below (s₁.setTop (mkF m 21 #[.val (.ref b1), .val (.ref b2), .val (.int 4)] [(.int (own_by (cf2 4))), (.int (own_by (cf1 4)))])) _
            exact kq)
          by_cases hc1068 : (own_by (cf1 4)) = (own_by (cf2 4))
          · have G1069 : Go p e below A0 (s₁.setTop (mkF m 11 #[.val (.ref b1), .val (.ref b2), .val (.int 5)] [(.ref b1), (.int 5)])) := fun tq kq => G1067 tq (by
              refine XS.icmpYes X0.here hx rfl (pc0 := 21) (pc' := 26) rfl (hb hby d19_21) rfl (teq hc1068).1 (by decide) (by decide) ?_
              refine XS.iinc X0.here hx rfl (hb hby d19_26) rfl (l' := #[.val (.ref b1), .val (.ref b2), .val (.int ((4 : Int32) + (1 : Int32)))]) rfl ?_
              show Steps p.tables e below (s₁.setTop (mkF m 29 #[.val (.ref b1), .val (.ref b2), .val (.int ((4 : Int32) + (1 : Int32)))] [])) _
              rw [show ((4 : Int32) + (1 : Int32)) = (5 : Int32) from (by decide : ((4 : Int32) + (1 : Int32)) = (5 : Int32))]
              show Steps p.tables e below (s₁.setTop (mkF m 29 #[.val (.ref b1), .val (.ref b2), .val (.int 5)] [])) _
              refine XS.goto X0.here hx rfl (pc0 := 29) (pc' := 9) rfl (hb hby d19_29) (by decide) (by decide) ?_
              refine XS.iloadN X0.here hx rfl (hb hby d19_9) rfl ?_
              refine XS.aloadN X0.here hx rfl (hb hby d19_10) rfl rfl ?_
              exact kq)
            obtain ⟨cl1070, Ar1070, q1070, S1070, M1070, H1070⟩ := id A1
            have G1071 : Go p e below A0 (s₁.setTop (mkF m 17 #[.val (.ref b1), .val (.ref b2), .val (.int 5)] [(.int 5), (.ref b1)])) := fun tq kq => G1069 tq (by
              refine X0.arraylength hx (by rw [e0]; exact Ar1070.1) (State.isArrayOf_alike hZ.alike Ar1070.2.1) (g := (mkF m 11 #[.val (.ref b1), .val (.ref b2), .val (.int 5)] [(.ref b1), (.int 5)])) rfl rfl (hb hby d19_11) _ ?_
              rw [len_of S1070 M1070]
              show Steps p.tables e below (s₁.setTop (mkF m 12 #[.val (.ref b1), .val (.ref b2), .val (.int 5)] [(.int 11), (.int 5)])) _
              refine XS.icmpNo X0.here hx rfl (hb hby d19_12) rfl (by decide) ?_
              refine XS.aloadN X0.here hx rfl (hb hby d19_15) rfl rfl ?_
              refine XS.iloadN X0.here hx rfl (hb hby d19_16) rfl ?_
              exact kq)
            obtain ⟨cl1072, Ar1072, q1072, S1072, M1072, H1072⟩ := id A1
            have hi1073 : ¬ ((5 : Int32) < 0 ∨ cl1072.slots.size ≤ ((5 : Int32)).toNatClampNeg) := (inb_of S1072 ⟨by decide, by decide⟩)
            have G1074 : Go p e below A0 (s₁.setTop (mkF m 20 #[.val (.ref b1), .val (.ref b2), .val (.int 5)] [(.int 5), (.ref b2), (.int (own_by (cf1 5)))])) := fun tq kq => G1071 tq (by
              refine X0.baloadBytes hx (j := (5 : Int32)) (v := (.int (own_by (cf1 5)))) (by rw [e0]; exact Ar1072.1) (State.isArrayOf_alike hZ.alike Ar1072.2.1) Ar1072.2.2 hi1073 ((H1072 _ (S1072 ▸ Nat.lt_of_not_le fun y => hi1073 (Or.inr y))).trans (congrArg some (congrArg (fun q => Value.int (own_by (cf1 q))) (by decide : ((5 : Int32)).toNatClampNeg = 5)))) (g := (mkF m 17 #[.val (.ref b1), .val (.ref b2), .val (.int 5)] [(.int 5), (.ref b1)])) rfl rfl (hb hby d19_17) _ ?_
              show Steps p.tables e below (s₁.setTop (mkF m 18 #[.val (.ref b1), .val (.ref b2), .val (.int 5)] [(.int (own_by (cf1 5)))])) _
              refine XS.aloadN X0.here hx rfl (hb hby d19_18) rfl rfl ?_
              refine XS.iloadN X0.here hx rfl (hb hby d19_19) rfl ?_
              exact kq)
            obtain ⟨cl1075, Ar1075, q1075, S1075, M1075, H1075⟩ := id A2
            have hi1076 : ¬ ((5 : Int32) < 0 ∨ cl1075.slots.size ≤ ((5 : Int32)).toNatClampNeg) := (inb_of S1075 ⟨by decide, by decide⟩)
            have G1077 : Go p e below A0 (s₁.setTop (mkF m 21 #[.val (.ref b1), .val (.ref b2), .val (.int 5)] [(.int (own_by (cf2 5))), (.int (own_by (cf1 5)))])) := fun tq kq => G1074 tq (by
              refine X0.baloadBytes hx (j := (5 : Int32)) (v := (.int (own_by (cf2 5)))) (by rw [e0]; exact Ar1075.1) (State.isArrayOf_alike hZ.alike Ar1075.2.1) Ar1075.2.2 hi1076 ((H1075 _ (S1075 ▸ Nat.lt_of_not_le fun y => hi1076 (Or.inr y))).trans (congrArg some (congrArg (fun q => Value.int (own_by (cf2 q))) (by decide : ((5 : Int32)).toNatClampNeg = 5)))) (g := (mkF m 20 #[.val (.ref b1), .val (.ref b2), .val (.int 5)] [(.int 5), (.ref b2), (.int (own_by (cf1 5)))])) rfl rfl (hb hby d19_20) _ ?_
              show Steps p.tables e below (s₁.setTop (mkF m 21 #[.val (.ref b1), .val (.ref b2), .val (.int 5)] [(.int (own_by (cf2 5))), (.int (own_by (cf1 5)))])) _
              exact kq)
            by_cases hc1078 : (own_by (cf1 5)) = (own_by (cf2 5))
            · have G1079 : Go p e below A0 (s₁.setTop (mkF m 11 #[.val (.ref b1), .val (.ref b2), .val (.int 6)] [(.ref b1), (.int 6)])) := fun tq kq => G1077 tq (by
                refine XS.icmpYes X0.here hx rfl (pc0 := 21) (pc' := 26) rfl (hb hby d19_21) rfl (teq hc1078).1 (by decide) (by decide) ?_
                refine XS.iinc X0.here hx rfl (hb hby d19_26) rfl (l' := #[.val (.ref b1), .val (.ref b2), .val (.int ((5 : Int32) + (1 : Int32)))]) rfl ?_
                show Steps p.tables e below (s₁.setTop (mkF m 29 #[.val (.ref b1), .val (.ref b2), .val (.int ((5 : Int32) + (1 : Int32)))] [])) _
                rw [show ((5 : Int32) + (1 : Int32)) = (6 : Int32) from (by decide : ((5 : Int32) + (1 : Int32)) = (6 : Int32))]
                show Steps p.tables e below (s₁.setTop (mkF m 29 #[.val (.ref b1), .val (.ref b2), .val (.int 6)] [])) _
                refine XS.goto X0.here hx rfl (pc0 := 29) (pc' := 9) rfl (hb hby d19_29) (by decide) (by decide) ?_
                refine XS.iloadN X0.here hx rfl (hb hby d19_9) rfl ?_
                refine XS.aloadN X0.here hx rfl (hb hby d19_10) rfl rfl ?_
                exact kq)
              obtain ⟨cl1080, Ar1080, q1080, S1080, M1080, H1080⟩ := id A1
              have G1081 : Go p e below A0 (s₁.setTop (mkF m 17 #[.val (.ref b1), .val (.ref b2), .val (.int 6)] [(.int 6), (.ref b1)])) := fun tq kq => G1079 tq (by
                refine X0.arraylength hx (by rw [e0]; exact Ar1080.1) (State.isArrayOf_alike hZ.alike Ar1080.2.1) (g := (mkF m 11 #[.val (.ref b1), .val (.ref b2), .val (.int 6)] [(.ref b1), (.int 6)])) rfl rfl (hb hby d19_11) _ ?_
                rw [len_of S1080 M1080]
                show Steps p.tables e below (s₁.setTop (mkF m 12 #[.val (.ref b1), .val (.ref b2), .val (.int 6)] [(.int 11), (.int 6)])) _
                refine XS.icmpNo X0.here hx rfl (hb hby d19_12) rfl (by decide) ?_
                refine XS.aloadN X0.here hx rfl (hb hby d19_15) rfl rfl ?_
                refine XS.iloadN X0.here hx rfl (hb hby d19_16) rfl ?_
                exact kq)
              obtain ⟨cl1082, Ar1082, q1082, S1082, M1082, H1082⟩ := id A1
              have hi1083 : ¬ ((6 : Int32) < 0 ∨ cl1082.slots.size ≤ ((6 : Int32)).toNatClampNeg) := (inb_of S1082 ⟨by decide, by decide⟩)
              have G1084 : Go p e below A0 (s₁.setTop (mkF m 20 #[.val (.ref b1), .val (.ref b2), .val (.int 6)] [(.int 6), (.ref b2), (.int (own_by (cf1 6)))])) := fun tq kq => G1081 tq (by
                refine X0.baloadBytes hx (j := (6 : Int32)) (v := (.int (own_by (cf1 6)))) (by rw [e0]; exact Ar1082.1) (State.isArrayOf_alike hZ.alike Ar1082.2.1) Ar1082.2.2 hi1083 ((H1082 _ (S1082 ▸ Nat.lt_of_not_le fun y => hi1083 (Or.inr y))).trans (congrArg some (congrArg (fun q => Value.int (own_by (cf1 q))) (by decide : ((6 : Int32)).toNatClampNeg = 6)))) (g := (mkF m 17 #[.val (.ref b1), .val (.ref b2), .val (.int 6)] [(.int 6), (.ref b1)])) rfl rfl (hb hby d19_17) _ ?_
                show Steps p.tables e below (s₁.setTop (mkF m 18 #[.val (.ref b1), .val (.ref b2), .val (.int 6)] [(.int (own_by (cf1 6)))])) _
                refine XS.aloadN X0.here hx rfl (hb hby d19_18) rfl rfl ?_
                refine XS.iloadN X0.here hx rfl (hb hby d19_19) rfl ?_
                exact kq)
              obtain ⟨cl1085, Ar1085, q1085, S1085, M1085, H1085⟩ := id A2
              have hi1086 : ¬ ((6 : Int32) < 0 ∨ cl1085.slots.size ≤ ((6 : Int32)).toNatClampNeg) := (inb_of S1085 ⟨by decide, by decide⟩)
              have G1087 : Go p e below A0 (s₁.setTop (mkF m 21 #[.val (.ref b1), .val (.ref b2), .val (.int 6)] [(.int (own_by (cf2 6))), (.int (own_by (cf1 6)))])) := fun tq kq => G1084 tq (by
                refine X0.baloadBytes hx (j := (6 : Int32)) (v := (.int (own_by (cf2 6)))) (by rw [e0]; exact Ar1085.1) (State.isArrayOf_alike hZ.alike Ar1085.2.1) Ar1085.2.2 hi1086 ((H1085 _ (S1085 ▸ Nat.lt_of_not_le fun y => hi1086 (Or.inr y))).trans (congrArg some (congrArg (fun q => Value.int (own_by (cf2 q))) (by decide : ((6 : Int32)).toNatClampNeg = 6)))) (g := (mkF m 20 #[.val (.ref b1), .val (.ref b2), .val (.int 6)] [(.int 6), (.ref b2), (.int (own_by (cf1 6)))])) rfl rfl (hb hby d19_20) _ ?_
                show Steps p.tables e below (s₁.setTop (mkF m 21 #[.val (.ref b1), .val (.ref b2), .val (.int 6)] [(.int (own_by (cf2 6))), (.int (own_by (cf1 6)))])) _
                exact kq)
              by_cases hc1088 : (own_by (cf1 6)) = (own_by (cf2 6))
              · have G1089 : Go p e below A0 (s₁.setTop (mkF m 11 #[.val (.ref b1), .val (.ref b2), .val (.int 7)] [(.ref b1), (.int 7)])) := fun tq kq => G1087 tq (by
                  refine XS.icmpYes X0.here hx rfl (pc0 := 21) (pc' := 26) rfl (hb hby d19_21) rfl (teq hc1088).1 (by decide) (by decide) ?_
                  refine XS.iinc X0.here hx rfl (hb hby d19_26) rfl (l' := #[.val (.ref b1), .val (.ref b2), .val (.int ((6 : Int32) + (1 : Int32)))]) rfl ?_
                  show Steps p.tables e below (s₁.setTop (mkF m 29 #[.val (.ref b1), .val (.ref b2), .val (.int ((6 : Int32) + (1 : Int32)))] [])) _
                  rw [show ((6 : Int32) + (1 : Int32)) = (7 : Int32) from (by decide : ((6 : Int32) + (1 : Int32)) = (7 : Int32))]
                  show Steps p.tables e below (s₁.setTop (mkF m 29 #[.val (.ref b1), .val (.ref b2), .val (.int 7)] [])) _
                  refine XS.goto X0.here hx rfl (pc0 := 29) (pc' := 9) rfl (hb hby d19_29) (by decide) (by decide) ?_
                  refine XS.iloadN X0.here hx rfl (hb hby d19_9) rfl ?_
                  refine XS.aloadN X0.here hx rfl (hb hby d19_10) rfl rfl ?_
                  exact kq)
                obtain ⟨cl1090, Ar1090, q1090, S1090, M1090, H1090⟩ := id A1
                have G1091 : Go p e below A0 (s₁.setTop (mkF m 17 #[.val (.ref b1), .val (.ref b2), .val (.int 7)] [(.int 7), (.ref b1)])) := fun tq kq => G1089 tq (by
                  refine X0.arraylength hx (by rw [e0]; exact Ar1090.1) (State.isArrayOf_alike hZ.alike Ar1090.2.1) (g := (mkF m 11 #[.val (.ref b1), .val (.ref b2), .val (.int 7)] [(.ref b1), (.int 7)])) rfl rfl (hb hby d19_11) _ ?_
                  rw [len_of S1090 M1090]
                  show Steps p.tables e below (s₁.setTop (mkF m 12 #[.val (.ref b1), .val (.ref b2), .val (.int 7)] [(.int 11), (.int 7)])) _
                  refine XS.icmpNo X0.here hx rfl (hb hby d19_12) rfl (by decide) ?_
                  refine XS.aloadN X0.here hx rfl (hb hby d19_15) rfl rfl ?_
                  refine XS.iloadN X0.here hx rfl (hb hby d19_16) rfl ?_
                  exact kq)
                obtain ⟨cl1092, Ar1092, q1092, S1092, M1092, H1092⟩ := id A1
                have hi1093 : ¬ ((7 : Int32) < 0 ∨ cl1092.slots.size ≤ ((7 : Int32)).toNatClampNeg) := (inb_of S1092 ⟨by decide, by decide⟩)
                have G1094 : Go p e below A0 (s₁.setTop (mkF m 20 #[.val (.ref b1), .val (.ref b2), .val (.int 7)] [(.int 7), (.ref b2), (.int (own_by (cf1 7)))])) := fun tq kq => G1091 tq (by
                  refine X0.baloadBytes hx (j := (7 : Int32)) (v := (.int (own_by (cf1 7)))) (by rw [e0]; exact Ar1092.1) (State.isArrayOf_alike hZ.alike Ar1092.2.1) Ar1092.2.2 hi1093 ((H1092 _ (S1092 ▸ Nat.lt_of_not_le fun y => hi1093 (Or.inr y))).trans (congrArg some (congrArg (fun q => Value.int (own_by (cf1 q))) (by decide : ((7 : Int32)).toNatClampNeg = 7)))) (g := (mkF m 17 #[.val (.ref b1), .val (.ref b2), .val (.int 7)] [(.int 7), (.ref b1)])) rfl rfl (hb hby d19_17) _ ?_
                  show Steps p.tables e below (s₁.setTop (mkF m 18 #[.val (.ref b1), .val (.ref b2), .val (.int 7)] [(.int (own_by (cf1 7)))])) _
                  refine XS.aloadN X0.here hx rfl (hb hby d19_18) rfl rfl ?_
                  refine XS.iloadN X0.here hx rfl (hb hby d19_19) rfl ?_
                  exact kq)
                obtain ⟨cl1095, Ar1095, q1095, S1095, M1095, H1095⟩ := id A2
                have hi1096 : ¬ ((7 : Int32) < 0 ∨ cl1095.slots.size ≤ ((7 : Int32)).toNatClampNeg) := (inb_of S1095 ⟨by decide, by decide⟩)
                have G1097 : Go p e below A0 (s₁.setTop (mkF m 21 #[.val (.ref b1), .val (.ref b2), .val (.int 7)] [(.int (own_by (cf2 7))), (.int (own_by (cf1 7)))])) := fun tq kq => G1094 tq (by
                  refine X0.baloadBytes hx (j := (7 : Int32)) (v := (.int (own_by (cf2 7)))) (by rw [e0]; exact Ar1095.1) (State.isArrayOf_alike hZ.alike Ar1095.2.1) Ar1095.2.2 hi1096 ((H1095 _ (S1095 ▸ Nat.lt_of_not_le fun y => hi1096 (Or.inr y))).trans (congrArg some (congrArg (fun q => Value.int (own_by (cf2 q))) (by decide : ((7 : Int32)).toNatClampNeg = 7)))) (g := (mkF m 20 #[.val (.ref b1), .val (.ref b2), .val (.int 7)] [(.int 7), (.ref b2), (.int (own_by (cf1 7)))])) rfl rfl (hb hby d19_20) _ ?_
                  show Steps p.tables e below (s₁.setTop (mkF m 21 #[.val (.ref b1), .val (.ref b2), .val (.int 7)] [(.int (own_by (cf2 7))), (.int (own_by (cf1 7)))])) _
                  exact kq)
                by_cases hc1098 : (own_by (cf1 7)) = (own_by (cf2 7))
                · have G1099 : Go p e below A0 (s₁.setTop (mkF m 11 #[.val (.ref b1), .val (.ref b2), .val (.int 8)] [(.ref b1), (.int 8)])) := fun tq kq => G1097 tq (by
                    refine XS.icmpYes X0.here hx rfl (pc0 := 21) (pc' := 26) rfl (hb hby d19_21) rfl (teq hc1098).1 (by decide) (by decide) ?_
                    refine XS.iinc X0.here hx rfl (hb hby d19_26) rfl (l' := #[.val (.ref b1), .val (.ref b2), .val (.int ((7 : Int32) + (1 : Int32)))]) rfl ?_
                    show Steps p.tables e below (s₁.setTop (mkF m 29 #[.val (.ref b1), .val (.ref b2), .val (.int ((7 : Int32) + (1 : Int32)))] [])) _
                    rw [show ((7 : Int32) + (1 : Int32)) = (8 : Int32) from (by decide : ((7 : Int32) + (1 : Int32)) = (8 : Int32))]
                    show Steps p.tables e below (s₁.setTop (mkF m 29 #[.val (.ref b1), .val (.ref b2), .val (.int 8)] [])) _
                    refine XS.goto X0.here hx rfl (pc0 := 29) (pc' := 9) rfl (hb hby d19_29) (by decide) (by decide) ?_
                    refine XS.iloadN X0.here hx rfl (hb hby d19_9) rfl ?_
                    refine XS.aloadN X0.here hx rfl (hb hby d19_10) rfl rfl ?_
                    exact kq)
                  obtain ⟨cl1100, Ar1100, q1100, S1100, M1100, H1100⟩ := id A1
                  have G1101 : Go p e below A0 (s₁.setTop (mkF m 17 #[.val (.ref b1), .val (.ref b2), .val (.int 8)] [(.int 8), (.ref b1)])) := fun tq kq => G1099 tq (by
                    refine X0.arraylength hx (by rw [e0]; exact Ar1100.1) (State.isArrayOf_alike hZ.alike Ar1100.2.1) (g := (mkF m 11 #[.val (.ref b1), .val (.ref b2), .val (.int 8)] [(.ref b1), (.int 8)])) rfl rfl (hb hby d19_11) _ ?_
                    rw [len_of S1100 M1100]
                    show Steps p.tables e below (s₁.setTop (mkF m 12 #[.val (.ref b1), .val (.ref b2), .val (.int 8)] [(.int 11), (.int 8)])) _
                    refine XS.icmpNo X0.here hx rfl (hb hby d19_12) rfl (by decide) ?_
                    refine XS.aloadN X0.here hx rfl (hb hby d19_15) rfl rfl ?_
                    refine XS.iloadN X0.here hx rfl (hb hby d19_16) rfl ?_
                    exact kq)
                  obtain ⟨cl1102, Ar1102, q1102, S1102, M1102, H1102⟩ := id A1
                  have hi1103 : ¬ ((8 : Int32) < 0 ∨ cl1102.slots.size ≤ ((8 : Int32)).toNatClampNeg) := (inb_of S1102 ⟨by decide, by decide⟩)
                  have G1104 : Go p e below A0 (s₁.setTop (mkF m 20 #[.val (.ref b1), .val (.ref b2), .val (.int 8)] [(.int 8), (.ref b2), (.int (own_by (cf1 8)))])) := fun tq kq => G1101 tq (by
                    refine X0.baloadBytes hx (j := (8 : Int32)) (v := (.int (own_by (cf1 8)))) (by rw [e0]; exact Ar1102.1) (State.isArrayOf_alike hZ.alike Ar1102.2.1) Ar1102.2.2 hi1103 ((H1102 _ (S1102 ▸ Nat.lt_of_not_le fun y => hi1103 (Or.inr y))).trans (congrArg some (congrArg (fun q => Value.int (own_by (cf1 q))) (by decide : ((8 : Int32)).toNatClampNeg = 8)))) (g := (mkF m 17 #[.val (.ref b1), .val (.ref b2), .val (.int 8)] [(.int 8), (.ref b1)])) rfl rfl (hb hby d19_17) _ ?_
                    show Steps p.tables e below (s₁.setTop (mkF m 18 #[.val (.ref b1), .val (.ref b2), .val (.int 8)] [(.int (own_by (cf1 8)))])) _
                    refine XS.aloadN X0.here hx rfl (hb hby d19_18) rfl rfl ?_
                    refine XS.iloadN X0.here hx rfl (hb hby d19_19) rfl ?_
                    exact kq)
                  obtain ⟨cl1105, Ar1105, q1105, S1105, M1105, H1105⟩ := id A2
                  have hi1106 : ¬ ((8 : Int32) < 0 ∨ cl1105.slots.size ≤ ((8 : Int32)).toNatClampNeg) := (inb_of S1105 ⟨by decide, by decide⟩)
                  have G1107 : Go p e below A0 (s₁.setTop (mkF m 21 #[.val (.ref b1), .val (.ref b2), .val (.int 8)] [(.int (own_by (cf2 8))), (.int (own_by (cf1 8)))])) := fun tq kq => G1104 tq (by
                    refine X0.baloadBytes hx (j := (8 : Int32)) (v := (.int (own_by (cf2 8)))) (by rw [e0]; exact Ar1105.1) (State.isArrayOf_alike hZ.alike Ar1105.2.1) Ar1105.2.2 hi1106 ((H1105 _ (S1105 ▸ Nat.lt_of_not_le fun y => hi1106 (Or.inr y))).trans (congrArg some (congrArg (fun q => Value.int (own_by (cf2 q))) (by decide : ((8 : Int32)).toNatClampNeg = 8)))) (g := (mkF m 20 #[.val (.ref b1), .val (.ref b2), .val (.int 8)] [(.int 8), (.ref b2), (.int (own_by (cf1 8)))])) rfl rfl (hb hby d19_20) _ ?_
                    show Steps p.tables e below (s₁.setTop (mkF m 21 #[.val (.ref b1), .val (.ref b2), .val (.int 8)] [(.int (own_by (cf2 8))), (.int (own_by (cf1 8)))])) _
                    exact kq)
                  by_cases hc1108 : (own_by (cf1 8)) = (own_by (cf2 8))
                  · have G1109 : Go p e below A0 (s₁.setTop (mkF m 11 #[.val (.ref b1), .val (.ref b2), .val (.int 9)] [(.ref b1), (.int 9)])) := fun tq kq => G1107 tq (by
                      refine XS.icmpYes X0.here hx rfl (pc0 := 21) (pc' := 26) rfl (hb hby d19_21) rfl (teq hc1108).1 (by decide) (by decide) ?_
                      refine XS.iinc X0.here hx rfl (hb hby d19_26) rfl (l' := #[.val (.ref b1), .val (.ref b2), .val (.int ((8 : Int32) + (1 : Int32)))]) rfl ?_
                      show Steps p.tables e below (s₁.setTop (mkF m 29 #[.val (.ref b1), .val (.ref b2), .val (.int ((8 : Int32) + (1 : Int32)))] [])) _
                      rw [show ((8 : Int32) + (1 : Int32)) = (9 : Int32) from (by decide : ((8 : Int32) + (1 : Int32)) = (9 : Int32))]
                      show Steps p.tables e below (s₁.setTop (mkF m 29 #[.val (.ref b1), .val (.ref b2), .val (.int 9)] [])) _
                      refine XS.goto X0.here hx rfl (pc0 := 29) (pc' := 9) rfl (hb hby d19_29) (by decide) (by decide) ?_
                      refine XS.iloadN X0.here hx rfl (hb hby d19_9) rfl ?_
                      refine XS.aloadN X0.here hx rfl (hb hby d19_10) rfl rfl ?_
                      exact kq)
                    obtain ⟨cl1110, Ar1110, q1110, S1110, M1110, H1110⟩ := id A1
                    have G1111 : Go p e below A0 (s₁.setTop (mkF m 17 #[.val (.ref b1), .val (.ref b2), .val (.int 9)] [(.int 9), (.ref b1)])) := fun tq kq => G1109 tq (by
                      refine X0.arraylength hx (by rw [e0]; exact Ar1110.1) (State.isArrayOf_alike hZ.alike Ar1110.2.1) (g := (mkF m 11 #[.val (.ref b1), .val (.ref b2), .val (.int 9)] [(.ref b1), (.int 9)])) rfl rfl (hb hby d19_11) _ ?_
                      rw [len_of S1110 M1110]
                      show Steps p.tables e below (s₁.setTop (mkF m 12 #[.val (.ref b1), .val (.ref b2), .val (.int 9)] [(.int 11), (.int 9)])) _
                      refine XS.icmpNo X0.here hx rfl (hb hby d19_12) rfl (by decide) ?_
                      refine XS.aloadN X0.here hx rfl (hb hby d19_15) rfl rfl ?_
                      refine XS.iloadN X0.here hx rfl (hb hby d19_16) rfl ?_
                      exact kq)
                    obtain ⟨cl1112, Ar1112, q1112, S1112, M1112, H1112⟩ := id A1
                    have hi1113 : ¬ ((9 : Int32) < 0 ∨ cl1112.slots.size ≤ ((9 : Int32)).toNatClampNeg) := (inb_of S1112 ⟨by decide, by decide⟩)
                    have G1114 : Go p e below A0 (s₁.setTop (mkF m 20 #[.val (.ref b1), .val (.ref b2), .val (.int 9)] [(.int 9), (.ref b2), (.int (own_by (cf1 9)))])) := fun tq kq => G1111 tq (by
                      refine X0.baloadBytes hx (j := (9 : Int32)) (v := (.int (own_by (cf1 9)))) (by rw [e0]; exact Ar1112.1) (State.isArrayOf_alike hZ.alike Ar1112.2.1) Ar1112.2.2 hi1113 ((H1112 _ (S1112 ▸ Nat.lt_of_not_le fun y => hi1113 (Or.inr y))).trans (congrArg some (congrArg (fun q => Value.int (own_by (cf1 q))) (by decide : ((9 : Int32)).toNatClampNeg = 9)))) (g := (mkF m 17 #[.val (.ref b1), .val (.ref b2), .val (.int 9)] [(.int 9), (.ref b1)])) rfl rfl (hb hby d19_17) _ ?_
                      show Steps p.tables e below (s₁.setTop (mkF m 18 #[.val (.ref b1), .val (.ref b2), .val (.int 9)] [(.int (own_by (cf1 9)))])) _
                      refine XS.aloadN X0.here hx rfl (hb hby d19_18) rfl rfl ?_
                      refine XS.iloadN X0.here hx rfl (hb hby d19_19) rfl ?_
                      exact kq)
                    obtain ⟨cl1115, Ar1115, q1115, S1115, M1115, H1115⟩ := id A2
                    have hi1116 : ¬ ((9 : Int32) < 0 ∨ cl1115.slots.size ≤ ((9 : Int32)).toNatClampNeg) := (inb_of S1115 ⟨by decide, by decide⟩)
                    have G1117 : Go p e below A0 (s₁.setTop (mkF m 21 #[.val (.ref b1), .val (.ref b2), .val (.int 9)] [(.int (own_by (cf2 9))), (.int (own_by (cf1 9)))])) := fun tq kq => G1114 tq (by
                      refine X0.baloadBytes hx (j := (9 : Int32)) (v := (.int (own_by (cf2 9)))) (by rw [e0]; exact Ar1115.1) (State.isArrayOf_alike hZ.alike Ar1115.2.1) Ar1115.2.2 hi1116 ((H1115 _ (S1115 ▸ Nat.lt_of_not_le fun y => hi1116 (Or.inr y))).trans (congrArg some (congrArg (fun q => Value.int (own_by (cf2 q))) (by decide : ((9 : Int32)).toNatClampNeg = 9)))) (g := (mkF m 20 #[.val (.ref b1), .val (.ref b2), .val (.int 9)] [(.int 9), (.ref b2), (.int (own_by (cf1 9)))])) rfl rfl (hb hby d19_20) _ ?_
                      show Steps p.tables e below (s₁.setTop (mkF m 21 #[.val (.ref b1), .val (.ref b2), .val (.int 9)] [(.int (own_by (cf2 9))), (.int (own_by (cf1 9)))])) _
                      exact kq)
                    by_cases hc1118 : (own_by (cf1 9)) = (own_by (cf2 9))
                    · have G1119 : Go p e below A0 (s₁.setTop (mkF m 11 #[.val (.ref b1), .val (.ref b2), .val (.int 10)] [(.ref b1), (.int 10)])) := fun tq kq => G1117 tq (by
                        refine XS.icmpYes X0.here hx rfl (pc0 := 21) (pc' := 26) rfl (hb hby d19_21) rfl (teq hc1118).1 (by decide) (by decide) ?_
                        refine XS.iinc X0.here hx rfl (hb hby d19_26) rfl (l' := #[.val (.ref b1), .val (.ref b2), .val (.int ((9 : Int32) + (1 : Int32)))]) rfl ?_
                        show Steps p.tables e below (s₁.setTop (mkF m 29 #[.val (.ref b1), .val (.ref b2), .val (.int ((9 : Int32) + (1 : Int32)))] [])) _
                        rw [show ((9 : Int32) + (1 : Int32)) = (10 : Int32) from (by decide : ((9 : Int32) + (1 : Int32)) = (10 : Int32))]
                        show Steps p.tables e below (s₁.setTop (mkF m 29 #[.val (.ref b1), .val (.ref b2), .val (.int 10)] [])) _
                        refine XS.goto X0.here hx rfl (pc0 := 29) (pc' := 9) rfl (hb hby d19_29) (by decide) (by decide) ?_
                        refine XS.iloadN X0.here hx rfl (hb hby d19_9) rfl ?_
                        refine XS.aloadN X0.here hx rfl (hb hby d19_10) rfl rfl ?_
                        exact kq)
                      obtain ⟨cl1120, Ar1120, q1120, S1120, M1120, H1120⟩ := id A1
                      have G1121 : Go p e below A0 (s₁.setTop (mkF m 17 #[.val (.ref b1), .val (.ref b2), .val (.int 10)] [(.int 10), (.ref b1)])) := fun tq kq => G1119 tq (by
                        refine X0.arraylength hx (by rw [e0]; exact Ar1120.1) (State.isArrayOf_alike hZ.alike Ar1120.2.1) (g := (mkF m 11 #[.val (.ref b1), .val (.ref b2), .val (.int 10)] [(.ref b1), (.int 10)])) rfl rfl (hb hby d19_11) _ ?_
                        rw [len_of S1120 M1120]
                        show Steps p.tables e below (s₁.setTop (mkF m 12 #[.val (.ref b1), .val (.ref b2), .val (.int 10)] [(.int 11), (.int 10)])) _
                        refine XS.icmpNo X0.here hx rfl (hb hby d19_12) rfl (by decide) ?_
                        refine XS.aloadN X0.here hx rfl (hb hby d19_15) rfl rfl ?_
                        refine XS.iloadN X0.here hx rfl (hb hby d19_16) rfl ?_
                        exact kq)
                      obtain ⟨cl1122, Ar1122, q1122, S1122, M1122, H1122⟩ := id A1
                      have hi1123 : ¬ ((10 : Int32) < 0 ∨ cl1122.slots.size ≤ ((10 : Int32)).toNatClampNeg) := (inb_of S1122 ⟨by decide, by decide⟩)
                      have G1124 : Go p e below A0 (s₁.setTop (mkF m 20 #[.val (.ref b1), .val (.ref b2), .val (.int 10)] [(.int 10), (.ref b2), (.int (own_by (cf1 10)))])) := fun tq kq => G1121 tq (by
                        refine X0.baloadBytes hx (j := (10 : Int32)) (v := (.int (own_by (cf1 10)))) (by rw [e0]; exact Ar1122.1) (State.isArrayOf_alike hZ.alike Ar1122.2.1) Ar1122.2.2 hi1123 ((H1122 _ (S1122 ▸ Nat.lt_of_not_le fun y => hi1123 (Or.inr y))).trans (congrArg some (congrArg (fun q => Value.int (own_by (cf1 q))) (by decide : ((10 : Int32)).toNatClampNeg = 10)))) (g := (mkF m 17 #[.val (.ref b1), .val (.ref b2), .val (.int 10)] [(.int 10), (.ref b1)])) rfl rfl (hb hby d19_17) _ ?_
                        show Steps p.tables e below (s₁.setTop (mkF m 18 #[.val (.ref b1), .val (.ref b2), .val (.int 10)] [(.int (own_by (cf1 10)))])) _
                        refine XS.aloadN X0.here hx rfl (hb hby d19_18) rfl rfl ?_
                        refine XS.iloadN X0.here hx rfl (hb hby d19_19) rfl ?_
                        exact kq)
                      obtain ⟨cl1125, Ar1125, q1125, S1125, M1125, H1125⟩ := id A2
                      have hi1126 : ¬ ((10 : Int32) < 0 ∨ cl1125.slots.size ≤ ((10 : Int32)).toNatClampNeg) := (inb_of S1125 ⟨by decide, by decide⟩)
                      have G1127 : Go p e below A0 (s₁.setTop (mkF m 21 #[.val (.ref b1), .val (.ref b2), .val (.int 10)] [(.int (own_by (cf2 10))), (.int (own_by (cf1 10)))])) := fun tq kq => G1124 tq (by
                        refine X0.baloadBytes hx (j := (10 : Int32)) (v := (.int (own_by (cf2 10)))) (by rw [e0]; exact Ar1125.1) (State.isArrayOf_alike hZ.alike Ar1125.2.1) Ar1125.2.2 hi1126 ((H1125 _ (S1125 ▸ Nat.lt_of_not_le fun y => hi1126 (Or.inr y))).trans (congrArg some (congrArg (fun q => Value.int (own_by (cf2 q))) (by decide : ((10 : Int32)).toNatClampNeg = 10)))) (g := (mkF m 20 #[.val (.ref b1), .val (.ref b2), .val (.int 10)] [(.int 10), (.ref b2), (.int (own_by (cf1 10)))])) rfl rfl (hb hby d19_20) _ ?_
                        show Steps p.tables e below (s₁.setTop (mkF m 21 #[.val (.ref b1), .val (.ref b2), .val (.int 10)] [(.int (own_by (cf2 10))), (.int (own_by (cf1 10)))])) _
                        exact kq)
                      by_cases hc1128 : (own_by (cf1 10)) = (own_by (cf2 10))
                      · have G1129 : Go p e below A0 (s₁.setTop (mkF m 11 #[.val (.ref b1), .val (.ref b2), .val (.int 11)] [(.ref b1), (.int 11)])) := fun tq kq => G1127 tq (by
                          refine XS.icmpYes X0.here hx rfl (pc0 := 21) (pc' := 26) rfl (hb hby d19_21) rfl (teq hc1128).1 (by decide) (by decide) ?_
                          refine XS.iinc X0.here hx rfl (hb hby d19_26) rfl (l' := #[.val (.ref b1), .val (.ref b2), .val (.int ((10 : Int32) + (1 : Int32)))]) rfl ?_
                          show Steps p.tables e below (s₁.setTop (mkF m 29 #[.val (.ref b1), .val (.ref b2), .val (.int ((10 : Int32) + (1 : Int32)))] [])) _
                          rw [show ((10 : Int32) + (1 : Int32)) = (11 : Int32) from (by decide : ((10 : Int32) + (1 : Int32)) = (11 : Int32))]
                          show Steps p.tables e below (s₁.setTop (mkF m 29 #[.val (.ref b1), .val (.ref b2), .val (.int 11)] [])) _
                          refine XS.goto X0.here hx rfl (pc0 := 29) (pc' := 9) rfl (hb hby d19_29) (by decide) (by decide) ?_
                          refine XS.iloadN X0.here hx rfl (hb hby d19_9) rfl ?_
                          refine XS.aloadN X0.here hx rfl (hb hby d19_10) rfl rfl ?_
                          exact kq)
                        obtain ⟨cl1130, Ar1130, q1130, S1130, M1130, H1130⟩ := id A1
                        have G1131 : Go p e below A0 (s₁.setTop (mkF m 33 #[.val (.ref b1), .val (.ref b2), .val (.int 11)] [(.int 1)])) := fun tq kq => G1129 tq (by
                          refine X0.arraylength hx (by rw [e0]; exact Ar1130.1) (State.isArrayOf_alike hZ.alike Ar1130.2.1) (g := (mkF m 11 #[.val (.ref b1), .val (.ref b2), .val (.int 11)] [(.ref b1), (.int 11)])) rfl rfl (hb hby d19_11) _ ?_
                          rw [len_of S1130 M1130]
                          show Steps p.tables e below (s₁.setTop (mkF m 12 #[.val (.ref b1), .val (.ref b2), .val (.int 11)] [(.int 11), (.int 11)])) _
                          refine XS.icmpYes X0.here hx rfl (pc0 := 12) (pc' := 32) rfl (hb hby d19_12) rfl (by decide) (by decide) (by decide) ?_
                          refine XS.iconst X0.here hx rfl (hb hby d19_32) ?_
                          exact kq)
                        obtain ⟨fs, hr, hrun, hended, hW, hsame⟩ := X0.leave (v := some (.int (nar .boolean (1 : Int32)))) (fun h => by rw [Bd.returns] at h; cases h)
                        refine ⟨_, _, (by rw [← hA0]; exact G1131 _ (retN X0 hx (t := .boolean) Bd.returns (by simp) (hb hby d19_33) hr)), hrun, hended, _, _, rfl, ?_, ⟨_, rfl⟩, hW, hsame.mono (by decide) (by decide)⟩
                        exact ⟨(by rw [own_bt (P := (own_eqf 11 cf1 cf2)) (own_all11 hc1028 hc1038 hc1048 hc1058 hc1068 hc1078 hc1088 hc1098 hc1108 hc1118 hc1128)]; rfl), N0, e0⟩
                      · have G1132 : Go p e below A0 (s₁.setTop (mkF m 25 #[.val (.ref b1), .val (.ref b2), .val (.int 10)] [(.int 0)])) := fun tq kq => G1127 tq (by
                          refine XS.icmpNo X0.here hx rfl (hb hby d19_21) rfl (feq hc1128).1 ?_
                          refine XS.iconst X0.here hx rfl (hb hby d19_24) ?_
                          exact kq)
                        obtain ⟨fs, hr, hrun, hended, hW, hsame⟩ := X0.leave (v := some (.int (nar .boolean (0 : Int32)))) (fun h => by rw [Bd.returns] at h; cases h)
                        refine ⟨_, _, (by rw [← hA0]; exact G1132 _ (retN X0 hx (t := .boolean) Bd.returns (by simp) (hb hby d19_25) hr)), hrun, hended, _, _, rfl, ?_, ⟨_, rfl⟩, hW, hsame.mono (by decide) (by decide)⟩
                        exact ⟨(by rw [own_b0 (P := (own_eqf 11 cf1 cf2)) (fun q => hc1128 (q 10 (by decide)))]; rfl), N0, e0⟩
                    · have G1133 : Go p e below A0 (s₁.setTop (mkF m 25 #[.val (.ref b1), .val (.ref b2), .val (.int 9)] [(.int 0)])) := fun tq kq => G1117 tq (by
                        refine XS.icmpNo X0.here hx rfl (hb hby d19_21) rfl (feq hc1118).1 ?_
                        refine XS.iconst X0.here hx rfl (hb hby d19_24) ?_
                        exact kq)
                      obtain ⟨fs, hr, hrun, hended, hW, hsame⟩ := X0.leave (v := some (.int (nar .boolean (0 : Int32)))) (fun h => by rw [Bd.returns] at h; cases h)
                      refine ⟨_, _, (by rw [← hA0]; exact G1133 _ (retN X0 hx (t := .boolean) Bd.returns (by simp) (hb hby d19_25) hr)), hrun, hended, _, _, rfl, ?_, ⟨_, rfl⟩, hW, hsame.mono (by decide) (by decide)⟩
                      exact ⟨(by rw [own_b0 (P := (own_eqf 11 cf1 cf2)) (fun q => hc1118 (q 9 (by decide)))]; rfl), N0, e0⟩
                  · have G1134 : Go p e below A0 (s₁.setTop (mkF m 25 #[.val (.ref b1), .val (.ref b2), .val (.int 8)] [(.int 0)])) := fun tq kq => G1107 tq (by
                      refine XS.icmpNo X0.here hx rfl (hb hby d19_21) rfl (feq hc1108).1 ?_
                      refine XS.iconst X0.here hx rfl (hb hby d19_24) ?_
                      exact kq)
                    obtain ⟨fs, hr, hrun, hended, hW, hsame⟩ := X0.leave (v := some (.int (nar .boolean (0 : Int32)))) (fun h => by rw [Bd.returns] at h; cases h)
                    refine ⟨_, _, (by rw [← hA0]; exact G1134 _ (retN X0 hx (t := .boolean) Bd.returns (by simp) (hb hby d19_25) hr)), hrun, hended, _, _, rfl, ?_, ⟨_, rfl⟩, hW, hsame.mono (by decide) (by decide)⟩
                    exact ⟨(by rw [own_b0 (P := (own_eqf 11 cf1 cf2)) (fun q => hc1108 (q 8 (by decide)))]; rfl), N0, e0⟩
                · have G1135 : Go p e below A0 (s₁.setTop (mkF m 25 #[.val (.ref b1), .val (.ref b2), .val (.int 7)] [(.int 0)])) := fun tq kq => G1097 tq (by
                    refine XS.icmpNo X0.here hx rfl (hb hby d19_21) rfl (feq hc1098).1 ?_
                    refine XS.iconst X0.here hx rfl (hb hby d19_24) ?_
                    exact kq)
                  obtain ⟨fs, hr, hrun, hended, hW, hsame⟩ := X0.leave (v := some (.int (nar .boolean (0 : Int32)))) (fun h => by rw [Bd.returns] at h; cases h)
                  refine ⟨_, _, (by rw [← hA0]; exact G1135 _ (retN X0 hx (t := .boolean) Bd.returns (by simp) (hb hby d19_25) hr)), hrun, hended, _, _, rfl, ?_, ⟨_, rfl⟩, hW, hsame.mono (by decide) (by decide)⟩
                  exact ⟨(by rw [own_b0 (P := (own_eqf 11 cf1 cf2)) (fun q => hc1098 (q 7 (by decide)))]; rfl), N0, e0⟩
              · have G1136 : Go p e below A0 (s₁.setTop (mkF m 25 #[.val (.ref b1), .val (.ref b2), .val (.int 6)] [(.int 0)])) := fun tq kq => G1087 tq (by
                  refine XS.icmpNo X0.here hx rfl (hb hby d19_21) rfl (feq hc1088).1 ?_
                  refine XS.iconst X0.here hx rfl (hb hby d19_24) ?_
                  exact kq)
                obtain ⟨fs, hr, hrun, hended, hW, hsame⟩ := X0.leave (v := some (.int (nar .boolean (0 : Int32)))) (fun h => by rw [Bd.returns] at h; cases h)
                refine ⟨_, _, (by rw [← hA0]; exact G1136 _ (retN X0 hx (t := .boolean) Bd.returns (by simp) (hb hby d19_25) hr)), hrun, hended, _, _, rfl, ?_, ⟨_, rfl⟩, hW, hsame.mono (by decide) (by decide)⟩
                exact ⟨(by rw [own_b0 (P := (own_eqf 11 cf1 cf2)) (fun q => hc1088 (q 6 (by decide)))]; rfl), N0, e0⟩
            · have G1137 : Go p e below A0 (s₁.setTop (mkF m 25 #[.val (.ref b1), .val (.ref b2), .val (.int 5)] [(.int 0)])) := fun tq kq => G1077 tq (by
                refine XS.icmpNo X0.here hx rfl (hb hby d19_21) rfl (feq hc1078).1 ?_
                refine XS.iconst X0.here hx rfl (hb hby d19_24) ?_
                exact kq)
              obtain ⟨fs, hr, hrun, hended, hW, hsame⟩ := X0.leave (v := some (.int (nar .boolean (0 : Int32)))) (fun h => by rw [Bd.returns] at h; cases h)
              refine ⟨_, _, (by rw [← hA0]; exact G1137 _ (retN X0 hx (t := .boolean) Bd.returns (by simp) (hb hby d19_25) hr)), hrun, hended, _, _, rfl, ?_, ⟨_, rfl⟩, hW, hsame.mono (by decide) (by decide)⟩
              exact ⟨(by rw [own_b0 (P := (own_eqf 11 cf1 cf2)) (fun q => hc1078 (q 5 (by decide)))]; rfl), N0, e0⟩
          · have G1138 : Go p e below A0 (s₁.setTop (mkF m 25 #[.val (.ref b1), .val (.ref b2), .val (.int 4)] [(.int 0)])) := fun tq kq => G1067 tq (by
              refine XS.icmpNo X0.here hx rfl (hb hby d19_21) rfl (feq hc1068).1 ?_
              refine XS.iconst X0.here hx rfl (hb hby d19_24) ?_
              exact kq)
            obtain ⟨fs, hr, hrun, hended, hW, hsame⟩ := X0.leave (v := some (.int (nar .boolean (0 : Int32)))) (fun h => by rw [Bd.returns] at h; cases h)
            refine ⟨_, _, (by rw [← hA0]; exact G1138 _ (retN X0 hx (t := .boolean) Bd.returns (by simp) (hb hby d19_25) hr)), hrun, hended, _, _, rfl, ?_, ⟨_, rfl⟩, hW, hsame.mono (by decide) (by decide)⟩
            exact ⟨(by rw [own_b0 (P := (own_eqf 11 cf1 cf2)) (fun q => hc1068 (q 4 (by decide)))]; rfl), N0, e0⟩
        · have G1139 : Go p e below A0 (s₁.setTop (mkF m 25 #[.val (.ref b1), .val (.ref b2), .val (.int 3)] [(.int 0)])) := fun tq kq => G1057 tq (by
            refine XS.icmpNo X0.here hx rfl (hb hby d19_21) rfl (feq hc1058).1 ?_
            refine XS.iconst X0.here hx rfl (hb hby d19_24) ?_
            exact kq)
          obtain ⟨fs, hr, hrun, hended, hW, hsame⟩ := X0.leave (v := some (.int (nar .boolean (0 : Int32)))) (fun h => by rw [Bd.returns] at h; cases h)
          refine ⟨_, _, (by rw [← hA0]; exact G1139 _ (retN X0 hx (t := .boolean) Bd.returns (by simp) (hb hby d19_25) hr)), hrun, hended, _, _, rfl, ?_, ⟨_, rfl⟩, hW, hsame.mono (by decide) (by decide)⟩
          exact ⟨(by rw [own_b0 (P := (own_eqf 11 cf1 cf2)) (fun q => hc1058 (q 3 (by decide)))]; rfl), N0, e0⟩
      · have G1140 : Go p e below A0 (s₁.setTop (mkF m 25 #[.val (.ref b1), .val (.ref b2), .val (.int 2)] [(.int 0)])) := fun tq kq => G1047 tq (by
          refine XS.icmpNo X0.here hx rfl (hb hby d19_21) rfl (feq hc1048).1 ?_
          refine XS.iconst X0.here hx rfl (hb hby d19_24) ?_
          exact kq)
        obtain ⟨fs, hr, hrun, hended, hW, hsame⟩ := X0.leave (v := some (.int (nar .boolean (0 : Int32)))) (fun h => by rw [Bd.returns] at h; cases h)
        refine ⟨_, _, (by rw [← hA0]; exact G1140 _ (retN X0 hx (t := .boolean) Bd.returns (by simp) (hb hby d19_25) hr)), hrun, hended, _, _, rfl, ?_, ⟨_, rfl⟩, hW, hsame.mono (by decide) (by decide)⟩
        exact ⟨(by rw [own_b0 (P := (own_eqf 11 cf1 cf2)) (fun q => hc1048 (q 2 (by decide)))]; rfl), N0, e0⟩
    · have G1141 : Go p e below A0 (s₁.setTop (mkF m 25 #[.val (.ref b1), .val (.ref b2), .val (.int 1)] [(.int 0)])) := fun tq kq => G1037 tq (by
        refine XS.icmpNo X0.here hx rfl (hb hby d19_21) rfl (feq hc1038).1 ?_
        refine XS.iconst X0.here hx rfl (hb hby d19_24) ?_
        exact kq)
      obtain ⟨fs, hr, hrun, hended, hW, hsame⟩ := X0.leave (v := some (.int (nar .boolean (0 : Int32)))) (fun h => by rw [Bd.returns] at h; cases h)
      refine ⟨_, _, (by rw [← hA0]; exact G1141 _ (retN X0 hx (t := .boolean) Bd.returns (by simp) (hb hby d19_25) hr)), hrun, hended, _, _, rfl, ?_, ⟨_, rfl⟩, hW, hsame.mono (by decide) (by decide)⟩
      exact ⟨(by rw [own_b0 (P := (own_eqf 11 cf1 cf2)) (fun q => hc1038 (q 1 (by decide)))]; rfl), N0, e0⟩
  · have G1142 : Go p e below A0 (s₁.setTop (mkF m 25 #[.val (.ref b1), .val (.ref b2), .val (.int 0)] [(.int 0)])) := fun tq kq => G1027 tq (by
      refine XS.icmpNo X0.here hx rfl (hb hby d19_21) rfl (feq hc1028).1 ?_
      refine XS.iconst X0.here hx rfl (hb hby d19_24) ?_
      exact kq)
    obtain ⟨fs, hr, hrun, hended, hW, hsame⟩ := X0.leave (v := some (.int (nar .boolean (0 : Int32)))) (fun h => by rw [Bd.returns] at h; cases h)
    refine ⟨_, _, (by rw [← hA0]; exact G1142 _ (retN X0 hx (t := .boolean) Bd.returns (by simp) (hb hby d19_25) hr)), hrun, hended, _, _, rfl, ?_, ⟨_, rfl⟩, hW, hsame.mono (by decide) (by decide)⟩
    exact ⟨(by rw [own_b0 (P := (own_eqf 11 cf1 cf2)) (fun q => hc1028 (q 0 (by decide)))]; rfl), N0, e0⟩
set_option maxRecDepth 65536 in
set_option maxHeartbeats 40000000 in
theorem rmEq9 (l : Launch) (Z : State) (a0 : Array Value) (hw : ∀ d ∈ tables_1, d.before a0 Z = true) (ws : List Jvm.Cond) (a1 a2 b1 b2 : Addr) (k1 k2 : ClassId) (cf1 cf2 : Nat → Int32) (cs : Int32) (fo : Value) (h0 : Heap) (n0 : Nat) (Z0 : n0 ≤ h0.size) (E1 : Exa Z h0 a1 "java/lang/String") (Fv1 : Fld Z h0 a1 "java/lang/String" "value" "[B" (.ref b1)) (Fc1 : Fld Z h0 a1 "java/lang/String" "coder" "B" (.int 0)) (E2 : Exa Z h0 a2 "java/lang/String") (Fv2 : Fld Z h0 a2 "java/lang/String" "value" "[B" (.ref b2)) (Fc2 : Fld Z h0 a2 "java/lang/String" "coder" "B" (.int 0)) (A1 : Af Z h0 b1 k1 .byte (9 : Int32) (fun j => .int (own_by (cf1 j)))) (A2 : Af Z h0 b2 k2 .byte (9 : Int32) (fun j => .int (own_by (cf2 j)))) (hne : a1 ≠ a2) (hCS : Sta Z Z.heap "java/lang/String" "COMPACT_STRINGS" "Z" (.int cs)) (hcs : ¬ cs = (0 : Int32)) (hSF : Sta Z Z.heap "jdk/internal/util/Preconditions" "SIOOBE_FORMATTER" "Ljava/util/function/BiFunction;" fo) (hfo : fo.isRef = true) (hold : Old Z n0 h0) :
    MetFree l (⟨"java/lang/String", "equals", "(Ljava/lang/Object;)Z"⟩ : MethodName) (head1 (Jvm.Cond.code (⟨"java/lang/String", "equals", "(Ljava/lang/Object;)Z"⟩ : MethodName) jdk_42_method_66_code 3 (some .boolean) :: ws) (Rm 1 0 0 14)) (fun aa UU => aa = #[(.ref a1), (.ref a2)] ∧ Z.Warmed39 UU.vm ∧ UU.heap = h0) (fun _ _ _ _ _ => True) (fun _ UU oo U' => ∃ v L, oo = .returned v ∧ Qr (.int (own_b (own_eqf 9 cf1 cf2))) h0 n0 v U'.heap L ∧ FrameEnd UU oo U' L (Rm 1 0 0 14).cells (Rm 1 0 0 14).slots) := by
  refine MetFree.of_bodySF (plainFor_of_name pn_1) hisR ?_
  intro p e s m args below meth c s₁ Bd hml0 hP hK
  obtain ⟨rfl, hZ, hh⟩ := hP
  have hx := Bd.exec
  have hby := Bd.bytes
  have hml : c.maxLocals = 3 := hml0
  have hown : s.vm.findClass "java/lang/String" = some m.cls := findClass_of_methodNamed Bd.named
  have hnm := (name_of_methodNamed Bd.named Bd.method).1
  have X0 : Stand p l e (Rm 1 0 0 14) s m #[(.ref a1), (.ref a2)] below meth c s₁ [] 0 0 := Stand.of_body Bd
  have e0 : s₁.heap = h0 := by rw [← hh, Bd.state]; rfl
  have N0 := Fr.nil n0
  obtain ⟨A0, hA0⟩ : ∃ A, A = s₁.setTop (entryFrame m #[(.ref a1), (.ref a2)] 3) := ⟨_, rfl⟩
  have G0 : Go p e below A0 (s₁.setTop (mkF m 0 #[.val (.ref a1), .val (.ref a2), .unset] [])) := fun tq kq => by rw [hA0]; exact castTop (ef_rmEq9 m a1 a2) kq
  have G1143 : Go p e below A0 (s₁.setTop (mkF m 8 #[.val (.ref a1), .val (.ref a2), .unset] [(.ref a2)])) := fun tq kq => G0 tq (by
    refine XS.aloadN X0.here hx rfl (hb hby d18_0) rfl rfl ?_
    refine XS.aloadN X0.here hx rfl (hb hby d18_1) rfl rfl ?_
    refine Jvm.RoadKit.acmp (g := (mkF m 2 #[.val (.ref a1), .val (.ref a2), .unset] [(.ref a2), (.ref a1)])) X0 hx rfl rfl rfl (pc0 := 2) (pc' := 7) (same := false) rfl (hb hby d18_2) rfl (decide_eq_false fun q => hne (Value.ref.inj q)) (by decide) (by decide) ?_
    refine XS.aloadN X0.here hx rfl (hb hby d18_7) rfl rfl ?_
    exact kq)
  obtain ⟨T1144, X1144, e1144, st1144⟩ := instY X0 hx hZ hown (wd hw 101 rfl) e0 (Ins.self E2) (g := (mkF m 8 #[.val (.ref a1), .val (.ref a2), .unset] [(.ref a2)])) rfl rfl (hb hby d18_8)
  have G1145 : Go p e below A0 (T1144.setTop (mkF m 11 #[.val (.ref a1), .val (.ref a2), .unset] [(.int 1)])) := fun tq kq => G1143 tq (st1144 _ kq)
  have G1146 : Go p e below A0 (T1144.setTop (mkF m 15 #[.val (.ref a1), .val (.ref a2), .unset] [(.ref a2)])) := fun tq kq => G1145 tq (by
    refine XS.ifNo X1144.here hx rfl (hb hby d18_11) rfl (by decide) ?_
    refine XS.aloadN X1144.here hx rfl (hb hby d18_14) rfl rfl ?_
    exact kq)
  obtain ⟨T1147, X1147, e1147, st1147⟩ := castY X1144 hx hZ hown (wd hw 101 rfl) e1144 (Ins.self E2) (g := (mkF m 15 #[.val (.ref a1), .val (.ref a2), .unset] [(.ref a2)])) rfl rfl (hb hby d18_15)
  have G1148 : Go p e below A0 (T1147.setTop (mkF m 18 #[.val (.ref a1), .val (.ref a2), .unset] [(.ref a2)])) := fun tq kq => G1146 tq (st1147 _ kq)
  have G1149 : Go p e below A0 (T1147.setTop (mkF m 19 #[.val (.ref a1), .val (.ref a2), .val (.ref a2)] [])) := fun tq kq => G1148 tq (by
    refine XS.astoreN X1147.here hx rfl (hb hby d18_18) rfl rfl (l' := #[.val (.ref a1), .val (.ref a2), .val (.ref a2)]) rfl ?_
    exact kq)
  obtain ⟨T1150, X1150, e1150, st1150⟩ := getS2 X1147 hx hZ hown (host := "") (Or.inl (wd hw 28 rfl)) Via.refl e1147 (hCS.ext hold.2) (g := (mkF m 19 #[.val (.ref a1), .val (.ref a2), .val (.ref a2)] [])) rfl (hb hby d18_19)
  have G1151 : Go p e below A0 (T1150.setTop (mkF m 22 #[.val (.ref a1), .val (.ref a2), .val (.ref a2)] [(.int cs)])) := fun tq kq => G1149 tq (st1150 _ kq)
  have G1152 : Go p e below A0 (T1150.setTop (mkF m 26 #[.val (.ref a1), .val (.ref a2), .val (.ref a2)] [(.ref a1)])) := fun tq kq => G1151 tq (by
    refine XS.ifNo X1150.here hx rfl (hb hby d18_22) rfl ((if0 _ _).trans (feq hcs).1) ?_
    refine XS.aloadN X1150.here hx rfl (hb hby d18_25) rfl rfl ?_
    exact kq)
  obtain ⟨T1153, X1153, e1153, st1153⟩ := getF X1150 hx hZ hown (host := "") (Or.inl (wd hw 29 rfl)) Via.refl e1150 Fc1 (g := (mkF m 26 #[.val (.ref a1), .val (.ref a2), .val (.ref a2)] [(.ref a1)])) rfl rfl (hb hby d18_26)
  have G1154 : Go p e below A0 (T1153.setTop (mkF m 29 #[.val (.ref a1), .val (.ref a2), .val (.ref a2)] [(.int 0)])) := fun tq kq => G1152 tq (st1153 _ kq)
  have G1155 : Go p e below A0 (T1153.setTop (mkF m 30 #[.val (.ref a1), .val (.ref a2), .val (.ref a2)] [(.ref a2), (.int 0)])) := fun tq kq => G1154 tq (by
    refine XS.aloadN X1153.here hx rfl (hb hby d18_29) rfl rfl ?_
    exact kq)
  obtain ⟨T1156, X1156, e1156, st1156⟩ := getF X1153 hx hZ hown (host := "") (Or.inl (wd hw 29 rfl)) Via.refl e1153 Fc2 (g := (mkF m 30 #[.val (.ref a1), .val (.ref a2), .val (.ref a2)] [(.ref a2), (.int 0)])) rfl rfl (hb hby d18_30)
  have G1157 : Go p e below A0 (T1156.setTop (mkF m 33 #[.val (.ref a1), .val (.ref a2), .val (.ref a2)] [(.int 0), (.int 0)])) := fun tq kq => G1155 tq (st1156 _ kq)
  have G1158 : Go p e below A0 (T1156.setTop (mkF m 37 #[.val (.ref a1), .val (.ref a2), .val (.ref a2)] [(.ref a1)])) := fun tq kq => G1157 tq (by
    refine XS.icmpNo X1156.here hx rfl (hb hby d18_33) rfl (by decide) ?_
    refine XS.aloadN X1156.here hx rfl (hb hby d18_36) rfl rfl ?_
    exact kq)
  obtain ⟨T1159, X1159, e1159, st1159⟩ := getF X1156 hx hZ hown (host := "") (Or.inl (wd hw 22 rfl)) Via.refl e1156 Fv1 (g := (mkF m 37 #[.val (.ref a1), .val (.ref a2), .val (.ref a2)] [(.ref a1)])) rfl rfl (hb hby d18_37)
  have G1160 : Go p e below A0 (T1159.setTop (mkF m 40 #[.val (.ref a1), .val (.ref a2), .val (.ref a2)] [(.ref b1)])) := fun tq kq => G1158 tq (st1159 _ kq)
  have G1161 : Go p e below A0 (T1159.setTop (mkF m 41 #[.val (.ref a1), .val (.ref a2), .val (.ref a2)] [(.ref a2), (.ref b1)])) := fun tq kq => G1160 tq (by
    refine XS.aloadN X1159.here hx rfl (hb hby d18_40) rfl rfl ?_
    exact kq)
  obtain ⟨T1162, X1162, e1162, st1162⟩ := getF X1159 hx hZ hown (host := "") (Or.inl (wd hw 22 rfl)) Via.refl e1159 Fv2 (g := (mkF m 41 #[.val (.ref a1), .val (.ref a2), .val (.ref a2)] [(.ref a2), (.ref b1)])) rfl rfl (hb hby d18_41)
  have G1163 : Go p e below A0 (T1162.setTop (mkF m 44 #[.val (.ref a1), .val (.ref a2), .val (.ref a2)] [(.ref b2), (.ref b1)])) := fun tq kq => G1161 tq (st1162 _ kq)
  obtain ⟨_, _, ⟨T1164, L1164, k1164, n1164⟩, -, X1164, ⟨Lc1164, hQ1164, l1164, y1164, z1164⟩, st1164⟩ := Jvm.LawKit.callS X1162 hx (y := (⟨"java/lang/StringLatin1", "equals", "([B[B)Z"⟩ : MethodName)) hown (mvT hZ (wd hw 102 rfl)) (mvT hZ (wd hw 103 rfl)) (mvT hZ (wd hw 42 rfl)) (mvT hZ (wd hw 104 rfl)) (by decide) (backOf (W := 0) (rmSE9 l Z a0 hw [] b1 b2 k1 k2 cf1 cf2 h0 n0 Z0 A1 A2 ) hZ (wd hw 104 rfl) (wd hw 42 rfl) (by decide) (by decide)) (g := (mkF m 44 #[.val (.ref a1), .val (.ref a2), .val (.ref a2)] [(.ref b2), (.ref b1)])) rfl (by rw [hml]; rfl) (argsL := [(.ref b1), (.ref b2)]) (rest := []) (lenOf pd_16 rfl) rfl (by show 2 * 0 + _ ≤ _; exact Nat.le_of_eq rfl) (hb hby d18_44) (fun _ _ => ⟨rfl, e1162, (by decide : 0 + 0 ≤ _), (by decide : 0 + 0 ≤ _)⟩)
  dsimp only [Pt.U, Pt.locs, Pt.cells, Pt.slots] at X1164 l1164 y1164 z1164 st1164 hQ1164
  obtain rfl : k1164 = 0 := y1164
  obtain rfl : n1164 = 0 := z1164
  obtain ⟨rfl, N1164q, e1164⟩ := hQ1164
  have N1164 : Fr n0 L1164 := by rw [l1164]; exact Fr.app N0 N1164q
  have G1165 : Go p e below A0 (T1164.setTop (mkF m 47 #[.val (.ref a1), .val (.ref a2), .val (.ref a2)] [(.int (own_b (own_eqf 9 cf1 cf2)))])) := fun tq kq => G1163 tq (st1164 _ kq)
  by_cases hc1166 : (own_eqf 9 cf1 cf2)
  · have G1167 : Go p e below A0 (T1164.setTop (mkF m 55 #[.val (.ref a1), .val (.ref a2), .val (.ref a2)] [(.int 1)])) := fun tq kq => G1165 tq (by
      refine XS.ifNo X1164.here hx rfl (hb hby d18_47) rfl ((if0 _ _).trans (feq (own_b1 hc1166)).1) ?_
      refine XS.iconst X1164.here hx rfl (hb hby d18_50) ?_
      refine XS.goto X1164.here hx rfl (pc0 := 51) (pc' := 55) rfl (hb hby d18_51) (by decide) (by decide) ?_
      exact kq)
    obtain ⟨fs, hr, hrun, hended, hW, hsame⟩ := X1164.leave (v := some (.int (nar .boolean (1 : Int32)))) (fun h => by rw [Bd.returns] at h; cases h)
    refine ⟨_, _, (by rw [← hA0]; exact G1167 _ (retN X1164 hx (t := .boolean) Bd.returns (by simp) (hb hby d18_55) hr)), hrun, hended, _, _, rfl, ?_, ⟨_, rfl⟩, hW, hsame.mono (by decide) (by decide)⟩
    exact ⟨(by rw [own_bt (P := (own_eqf 9 cf1 cf2)) hc1166]; rfl), N1164, e1164⟩
  · have G1168 : Go p e below A0 (T1164.setTop (mkF m 55 #[.val (.ref a1), .val (.ref a2), .val (.ref a2)] [(.int 0)])) := fun tq kq => G1165 tq (by
      refine XS.ifYes X1164.here hx rfl (pc0 := 47) (pc' := 54) rfl (hb hby d18_47) rfl ((if0 _ _).trans (teq (own_b0 hc1166)).1) (by decide) (by decide) ?_
      refine XS.iconst X1164.here hx rfl (hb hby d18_54) ?_
      exact kq)
    obtain ⟨fs, hr, hrun, hended, hW, hsame⟩ := X1164.leave (v := some (.int (nar .boolean (0 : Int32)))) (fun h => by rw [Bd.returns] at h; cases h)
    refine ⟨_, _, (by rw [← hA0]; exact G1168 _ (retN X1164 hx (t := .boolean) Bd.returns (by simp) (hb hby d18_55) hr)), hrun, hended, _, _, rfl, ?_, ⟨_, rfl⟩, hW, hsame.mono (by decide) (by decide)⟩
    exact ⟨(by rw [own_b0 (P := (own_eqf 9 cf1 cf2)) hc1166]; rfl), N1164, e1164⟩
set_option maxRecDepth 65536 in
set_option maxHeartbeats 40000000 in
theorem rmEq11 (l : Launch) (Z : State) (a0 : Array Value) (hw : ∀ d ∈ tables_1, d.before a0 Z = true) (ws : List Jvm.Cond) (a1 a2 b1 b2 : Addr) (k1 k2 : ClassId) (cf1 cf2 : Nat → Int32) (cs : Int32) (fo : Value) (h0 : Heap) (n0 : Nat) (Z0 : n0 ≤ h0.size) (E1 : Exa Z h0 a1 "java/lang/String") (Fv1 : Fld Z h0 a1 "java/lang/String" "value" "[B" (.ref b1)) (Fc1 : Fld Z h0 a1 "java/lang/String" "coder" "B" (.int 0)) (E2 : Exa Z h0 a2 "java/lang/String") (Fv2 : Fld Z h0 a2 "java/lang/String" "value" "[B" (.ref b2)) (Fc2 : Fld Z h0 a2 "java/lang/String" "coder" "B" (.int 0)) (A1 : Af Z h0 b1 k1 .byte (11 : Int32) (fun j => .int (own_by (cf1 j)))) (A2 : Af Z h0 b2 k2 .byte (11 : Int32) (fun j => .int (own_by (cf2 j)))) (hne : a1 ≠ a2) (hCS : Sta Z Z.heap "java/lang/String" "COMPACT_STRINGS" "Z" (.int cs)) (hcs : ¬ cs = (0 : Int32)) (hSF : Sta Z Z.heap "jdk/internal/util/Preconditions" "SIOOBE_FORMATTER" "Ljava/util/function/BiFunction;" fo) (hfo : fo.isRef = true) (hold : Old Z n0 h0) :
    MetFree l (⟨"java/lang/String", "equals", "(Ljava/lang/Object;)Z"⟩ : MethodName) (head1 (Jvm.Cond.code (⟨"java/lang/String", "equals", "(Ljava/lang/Object;)Z"⟩ : MethodName) jdk_42_method_66_code 3 (some .boolean) :: ws) (Rm 1 0 0 14)) (fun aa UU => aa = #[(.ref a1), (.ref a2)] ∧ Z.Warmed39 UU.vm ∧ UU.heap = h0) (fun _ _ _ _ _ => True) (fun _ UU oo U' => ∃ v L, oo = .returned v ∧ Qr (.int (own_b (own_eqf 11 cf1 cf2))) h0 n0 v U'.heap L ∧ FrameEnd UU oo U' L (Rm 1 0 0 14).cells (Rm 1 0 0 14).slots) := by
  refine MetFree.of_bodySF (plainFor_of_name pn_1) hisR ?_
  intro p e s m args below meth c s₁ Bd hml0 hP hK
  obtain ⟨rfl, hZ, hh⟩ := hP
  have hx := Bd.exec
  have hby := Bd.bytes
  have hml : c.maxLocals = 3 := hml0
  have hown : s.vm.findClass "java/lang/String" = some m.cls := findClass_of_methodNamed Bd.named
  have hnm := (name_of_methodNamed Bd.named Bd.method).1
  have X0 : Stand p l e (Rm 1 0 0 14) s m #[(.ref a1), (.ref a2)] below meth c s₁ [] 0 0 := Stand.of_body Bd
  have e0 : s₁.heap = h0 := by rw [← hh, Bd.state]; rfl
  have N0 := Fr.nil n0
  obtain ⟨A0, hA0⟩ : ∃ A, A = s₁.setTop (entryFrame m #[(.ref a1), (.ref a2)] 3) := ⟨_, rfl⟩
  have G0 : Go p e below A0 (s₁.setTop (mkF m 0 #[.val (.ref a1), .val (.ref a2), .unset] [])) := fun tq kq => by rw [hA0]; exact castTop (ef_rmEq11 m a1 a2) kq
  have G1169 : Go p e below A0 (s₁.setTop (mkF m 8 #[.val (.ref a1), .val (.ref a2), .unset] [(.ref a2)])) := fun tq kq => G0 tq (by
    refine XS.aloadN X0.here hx rfl (hb hby d18_0) rfl rfl ?_
    refine XS.aloadN X0.here hx rfl (hb hby d18_1) rfl rfl ?_
    refine Jvm.RoadKit.acmp (g := (mkF m 2 #[.val (.ref a1), .val (.ref a2), .unset] [(.ref a2), (.ref a1)])) X0 hx rfl rfl rfl (pc0 := 2) (pc' := 7) (same := false) rfl (hb hby d18_2) rfl (decide_eq_false fun q => hne (Value.ref.inj q)) (by decide) (by decide) ?_
    refine XS.aloadN X0.here hx rfl (hb hby d18_7) rfl rfl ?_
    exact kq)
  obtain ⟨T1170, X1170, e1170, st1170⟩ := instY X0 hx hZ hown (wd hw 101 rfl) e0 (Ins.self E2) (g := (mkF m 8 #[.val (.ref a1), .val (.ref a2), .unset] [(.ref a2)])) rfl rfl (hb hby d18_8)
  have G1171 : Go p e below A0 (T1170.setTop (mkF m 11 #[.val (.ref a1), .val (.ref a2), .unset] [(.int 1)])) := fun tq kq => G1169 tq (st1170 _ kq)
  have G1172 : Go p e below A0 (T1170.setTop (mkF m 15 #[.val (.ref a1), .val (.ref a2), .unset] [(.ref a2)])) := fun tq kq => G1171 tq (by
    refine XS.ifNo X1170.here hx rfl (hb hby d18_11) rfl (by decide) ?_
    refine XS.aloadN X1170.here hx rfl (hb hby d18_14) rfl rfl ?_
    exact kq)
  obtain ⟨T1173, X1173, e1173, st1173⟩ := castY X1170 hx hZ hown (wd hw 101 rfl) e1170 (Ins.self E2) (g := (mkF m 15 #[.val (.ref a1), .val (.ref a2), .unset] [(.ref a2)])) rfl rfl (hb hby d18_15)
  have G1174 : Go p e below A0 (T1173.setTop (mkF m 18 #[.val (.ref a1), .val (.ref a2), .unset] [(.ref a2)])) := fun tq kq => G1172 tq (st1173 _ kq)
  have G1175 : Go p e below A0 (T1173.setTop (mkF m 19 #[.val (.ref a1), .val (.ref a2), .val (.ref a2)] [])) := fun tq kq => G1174 tq (by
    refine XS.astoreN X1173.here hx rfl (hb hby d18_18) rfl rfl (l' := #[.val (.ref a1), .val (.ref a2), .val (.ref a2)]) rfl ?_
    exact kq)
  obtain ⟨T1176, X1176, e1176, st1176⟩ := getS2 X1173 hx hZ hown (host := "") (Or.inl (wd hw 28 rfl)) Via.refl e1173 (hCS.ext hold.2) (g := (mkF m 19 #[.val (.ref a1), .val (.ref a2), .val (.ref a2)] [])) rfl (hb hby d18_19)
  have G1177 : Go p e below A0 (T1176.setTop (mkF m 22 #[.val (.ref a1), .val (.ref a2), .val (.ref a2)] [(.int cs)])) := fun tq kq => G1175 tq (st1176 _ kq)
  have G1178 : Go p e below A0 (T1176.setTop (mkF m 26 #[.val (.ref a1), .val (.ref a2), .val (.ref a2)] [(.ref a1)])) := fun tq kq => G1177 tq (by
    refine XS.ifNo X1176.here hx rfl (hb hby d18_22) rfl ((if0 _ _).trans (feq hcs).1) ?_
    refine XS.aloadN X1176.here hx rfl (hb hby d18_25) rfl rfl ?_
    exact kq)
  obtain ⟨T1179, X1179, e1179, st1179⟩ := getF X1176 hx hZ hown (host := "") (Or.inl (wd hw 29 rfl)) Via.refl e1176 Fc1 (g := (mkF m 26 #[.val (.ref a1), .val (.ref a2), .val (.ref a2)] [(.ref a1)])) rfl rfl (hb hby d18_26)
  have G1180 : Go p e below A0 (T1179.setTop (mkF m 29 #[.val (.ref a1), .val (.ref a2), .val (.ref a2)] [(.int 0)])) := fun tq kq => G1178 tq (st1179 _ kq)
  have G1181 : Go p e below A0 (T1179.setTop (mkF m 30 #[.val (.ref a1), .val (.ref a2), .val (.ref a2)] [(.ref a2), (.int 0)])) := fun tq kq => G1180 tq (by
    refine XS.aloadN X1179.here hx rfl (hb hby d18_29) rfl rfl ?_
    exact kq)
  obtain ⟨T1182, X1182, e1182, st1182⟩ := getF X1179 hx hZ hown (host := "") (Or.inl (wd hw 29 rfl)) Via.refl e1179 Fc2 (g := (mkF m 30 #[.val (.ref a1), .val (.ref a2), .val (.ref a2)] [(.ref a2), (.int 0)])) rfl rfl (hb hby d18_30)
  have G1183 : Go p e below A0 (T1182.setTop (mkF m 33 #[.val (.ref a1), .val (.ref a2), .val (.ref a2)] [(.int 0), (.int 0)])) := fun tq kq => G1181 tq (st1182 _ kq)
  have G1184 : Go p e below A0 (T1182.setTop (mkF m 37 #[.val (.ref a1), .val (.ref a2), .val (.ref a2)] [(.ref a1)])) := fun tq kq => G1183 tq (by
    refine XS.icmpNo X1182.here hx rfl (hb hby d18_33) rfl (by decide) ?_
    refine XS.aloadN X1182.here hx rfl (hb hby d18_36) rfl rfl ?_
    exact kq)
  obtain ⟨T1185, X1185, e1185, st1185⟩ := getF X1182 hx hZ hown (host := "") (Or.inl (wd hw 22 rfl)) Via.refl e1182 Fv1 (g := (mkF m 37 #[.val (.ref a1), .val (.ref a2), .val (.ref a2)] [(.ref a1)])) rfl rfl (hb hby d18_37)
  have G1186 : Go p e below A0 (T1185.setTop (mkF m 40 #[.val (.ref a1), .val (.ref a2), .val (.ref a2)] [(.ref b1)])) := fun tq kq => G1184 tq (st1185 _ kq)
  have G1187 : Go p e below A0 (T1185.setTop (mkF m 41 #[.val (.ref a1), .val (.ref a2), .val (.ref a2)] [(.ref a2), (.ref b1)])) := fun tq kq => G1186 tq (by
    refine XS.aloadN X1185.here hx rfl (hb hby d18_40) rfl rfl ?_
    exact kq)
  obtain ⟨T1188, X1188, e1188, st1188⟩ := getF X1185 hx hZ hown (host := "") (Or.inl (wd hw 22 rfl)) Via.refl e1185 Fv2 (g := (mkF m 41 #[.val (.ref a1), .val (.ref a2), .val (.ref a2)] [(.ref a2), (.ref b1)])) rfl rfl (hb hby d18_41)
  have G1189 : Go p e below A0 (T1188.setTop (mkF m 44 #[.val (.ref a1), .val (.ref a2), .val (.ref a2)] [(.ref b2), (.ref b1)])) := fun tq kq => G1187 tq (st1188 _ kq)
  obtain ⟨_, _, ⟨T1190, L1190, k1190, n1190⟩, -, X1190, ⟨Lc1190, hQ1190, l1190, y1190, z1190⟩, st1190⟩ := Jvm.LawKit.callS X1188 hx (y := (⟨"java/lang/StringLatin1", "equals", "([B[B)Z"⟩ : MethodName)) hown (mvT hZ (wd hw 102 rfl)) (mvT hZ (wd hw 103 rfl)) (mvT hZ (wd hw 42 rfl)) (mvT hZ (wd hw 104 rfl)) (by decide) (backOf (W := 0) (rmSE11 l Z a0 hw [] b1 b2 k1 k2 cf1 cf2 h0 n0 Z0 A1 A2 ) hZ (wd hw 104 rfl) (wd hw 42 rfl) (by decide) (by decide)) (g := (mkF m 44 #[.val (.ref a1), .val (.ref a2), .val (.ref a2)] [(.ref b2), (.ref b1)])) rfl (by rw [hml]; rfl) (argsL := [(.ref b1), (.ref b2)]) (rest := []) (lenOf pd_16 rfl) rfl (by show 2 * 0 + _ ≤ _; exact Nat.le_of_eq rfl) (hb hby d18_44) (fun _ _ => ⟨rfl, e1188, (by decide : 0 + 0 ≤ _), (by decide : 0 + 0 ≤ _)⟩)
  dsimp only [Pt.U, Pt.locs, Pt.cells, Pt.slots] at X1190 l1190 y1190 z1190 st1190 hQ1190
  obtain rfl : k1190 = 0 := y1190
  obtain rfl : n1190 = 0 := z1190
  obtain ⟨rfl, N1190q, e1190⟩ := hQ1190
  have N1190 : Fr n0 L1190 := by rw [l1190]; exact Fr.app N0 N1190q
  have G1191 : Go p e below A0 (T1190.setTop (mkF m 47 #[.val (.ref a1), .val (.ref a2), .val (.ref a2)] [(.int (own_b (own_eqf 11 cf1 cf2)))])) := fun tq kq => G1189 tq (st1190 _ kq)
  by_cases hc1192 : (own_eqf 11 cf1 cf2)
  · have G1193 : Go p e below A0 (T1190.setTop (mkF m 55 #[.val (.ref a1), .val (.ref a2), .val (.ref a2)] [(.int 1)])) := fun tq kq => G1191 tq (by
      refine XS.ifNo X1190.here hx rfl (hb hby d18_47) rfl ((if0 _ _).trans (feq (own_b1 hc1192)).1) ?_
      refine XS.iconst X1190.here hx rfl (hb hby d18_50) ?_
      refine XS.goto X1190.here hx rfl (pc0 := 51) (pc' := 55) rfl (hb hby d18_51) (by decide) (by decide) ?_
      exact kq)
    obtain ⟨fs, hr, hrun, hended, hW, hsame⟩ := X1190.leave (v := some (.int (nar .boolean (1 : Int32)))) (fun h => by rw [Bd.returns] at h; cases h)
    refine ⟨_, _, (by rw [← hA0]; exact G1193 _ (retN X1190 hx (t := .boolean) Bd.returns (by simp) (hb hby d18_55) hr)), hrun, hended, _, _, rfl, ?_, ⟨_, rfl⟩, hW, hsame.mono (by decide) (by decide)⟩
    exact ⟨(by rw [own_bt (P := (own_eqf 11 cf1 cf2)) hc1192]; rfl), N1190, e1190⟩
  · have G1194 : Go p e below A0 (T1190.setTop (mkF m 55 #[.val (.ref a1), .val (.ref a2), .val (.ref a2)] [(.int 0)])) := fun tq kq => G1191 tq (by
      refine XS.ifYes X1190.here hx rfl (pc0 := 47) (pc' := 54) rfl (hb hby d18_47) rfl ((if0 _ _).trans (teq (own_b0 hc1192)).1) (by decide) (by decide) ?_
      refine XS.iconst X1190.here hx rfl (hb hby d18_54) ?_
      exact kq)
    obtain ⟨fs, hr, hrun, hended, hW, hsame⟩ := X1190.leave (v := some (.int (nar .boolean (0 : Int32)))) (fun h => by rw [Bd.returns] at h; cases h)
    refine ⟨_, _, (by rw [← hA0]; exact G1194 _ (retN X1190 hx (t := .boolean) Bd.returns (by simp) (hb hby d18_55) hr)), hrun, hended, _, _, rfl, ?_, ⟨_, rfl⟩, hW, hsame.mono (by decide) (by decide)⟩
    exact ⟨(by rw [own_b0 (P := (own_eqf 11 cf1 cf2)) hc1192]; rfl), N1190, e1190⟩
set_option maxRecDepth 65536 in
set_option maxHeartbeats 40000000 in
theorem rmEqX (l : Launch) (Z : State) (a0 : Array Value) (hw : ∀ d ∈ tables_1, d.before a0 Z = true) (ws : List Jvm.Cond) (a1 a2 b1 b2 : Addr) (k1 k2 : ClassId) (g1 g2 : Nat → Value) (n1 n2 : Int32) (cs : Int32) (fo : Value) (h0 : Heap) (n0 : Nat) (Z0 : n0 ≤ h0.size) (E1 : Exa Z h0 a1 "java/lang/String") (Fv1 : Fld Z h0 a1 "java/lang/String" "value" "[B" (.ref b1)) (Fc1 : Fld Z h0 a1 "java/lang/String" "coder" "B" (.int 0)) (E2 : Exa Z h0 a2 "java/lang/String") (Fv2 : Fld Z h0 a2 "java/lang/String" "value" "[B" (.ref b2)) (Fc2 : Fld Z h0 a2 "java/lang/String" "coder" "B" (.int 0)) (A1 : Af Z h0 b1 k1 .byte n1 g1) (A2 : Af Z h0 b2 k2 .byte n2 g2) (hnn : ¬ n1 = n2) (hne : a1 ≠ a2) (hCS : Sta Z Z.heap "java/lang/String" "COMPACT_STRINGS" "Z" (.int cs)) (hcs : ¬ cs = (0 : Int32)) (hSF : Sta Z Z.heap "jdk/internal/util/Preconditions" "SIOOBE_FORMATTER" "Ljava/util/function/BiFunction;" fo) (hfo : fo.isRef = true) (hold : Old Z n0 h0) :
    MetFree l (⟨"java/lang/String", "equals", "(Ljava/lang/Object;)Z"⟩ : MethodName) (head1 (Jvm.Cond.code (⟨"java/lang/String", "equals", "(Ljava/lang/Object;)Z"⟩ : MethodName) jdk_42_method_66_code 3 (some .boolean) :: ws) (Rm 1 0 0 14)) (fun aa UU => aa = #[(.ref a1), (.ref a2)] ∧ Z.Warmed39 UU.vm ∧ UU.heap = h0) (fun _ _ _ _ _ => True) (fun _ UU oo U' => ∃ v L, oo = .returned v ∧ Qr (.int 0) h0 n0 v U'.heap L ∧ FrameEnd UU oo U' L (Rm 1 0 0 14).cells (Rm 1 0 0 14).slots) := by
  refine MetFree.of_bodySF (plainFor_of_name pn_1) hisR ?_
  intro p e s m args below meth c s₁ Bd hml0 hP hK
  obtain ⟨rfl, hZ, hh⟩ := hP
  have hx := Bd.exec
  have hby := Bd.bytes
  have hml : c.maxLocals = 3 := hml0
  have hown : s.vm.findClass "java/lang/String" = some m.cls := findClass_of_methodNamed Bd.named
  have hnm := (name_of_methodNamed Bd.named Bd.method).1
  have X0 : Stand p l e (Rm 1 0 0 14) s m #[(.ref a1), (.ref a2)] below meth c s₁ [] 0 0 := Stand.of_body Bd
  have e0 : s₁.heap = h0 := by rw [← hh, Bd.state]; rfl
  have N0 := Fr.nil n0
  obtain ⟨A0, hA0⟩ : ∃ A, A = s₁.setTop (entryFrame m #[(.ref a1), (.ref a2)] 3) := ⟨_, rfl⟩
  have G0 : Go p e below A0 (s₁.setTop (mkF m 0 #[.val (.ref a1), .val (.ref a2), .unset] [])) := fun tq kq => by rw [hA0]; exact castTop (ef_rmEqX m a1 a2) kq
  have G1195 : Go p e below A0 (s₁.setTop (mkF m 8 #[.val (.ref a1), .val (.ref a2), .unset] [(.ref a2)])) := fun tq kq => G0 tq (by
    refine XS.aloadN X0.here hx rfl (hb hby d18_0) rfl rfl ?_
    refine XS.aloadN X0.here hx rfl (hb hby d18_1) rfl rfl ?_
    refine Jvm.RoadKit.acmp (g := (mkF m 2 #[.val (.ref a1), .val (.ref a2), .unset] [(.ref a2), (.ref a1)])) X0 hx rfl rfl rfl (pc0 := 2) (pc' := 7) (same := false) rfl (hb hby d18_2) rfl (decide_eq_false fun q => hne (Value.ref.inj q)) (by decide) (by decide) ?_
    refine XS.aloadN X0.here hx rfl (hb hby d18_7) rfl rfl ?_
    exact kq)
  obtain ⟨T1196, X1196, e1196, st1196⟩ := instY X0 hx hZ hown (wd hw 101 rfl) e0 (Ins.self E2) (g := (mkF m 8 #[.val (.ref a1), .val (.ref a2), .unset] [(.ref a2)])) rfl rfl (hb hby d18_8)
  have G1197 : Go p e below A0 (T1196.setTop (mkF m 11 #[.val (.ref a1), .val (.ref a2), .unset] [(.int 1)])) := fun tq kq => G1195 tq (st1196 _ kq)
  have G1198 : Go p e below A0 (T1196.setTop (mkF m 15 #[.val (.ref a1), .val (.ref a2), .unset] [(.ref a2)])) := fun tq kq => G1197 tq (by
    refine XS.ifNo X1196.here hx rfl (hb hby d18_11) rfl (by decide) ?_
    refine XS.aloadN X1196.here hx rfl (hb hby d18_14) rfl rfl ?_
    exact kq)
  obtain ⟨T1199, X1199, e1199, st1199⟩ := castY X1196 hx hZ hown (wd hw 101 rfl) e1196 (Ins.self E2) (g := (mkF m 15 #[.val (.ref a1), .val (.ref a2), .unset] [(.ref a2)])) rfl rfl (hb hby d18_15)
  have G1200 : Go p e below A0 (T1199.setTop (mkF m 18 #[.val (.ref a1), .val (.ref a2), .unset] [(.ref a2)])) := fun tq kq => G1198 tq (st1199 _ kq)
  have G1201 : Go p e below A0 (T1199.setTop (mkF m 19 #[.val (.ref a1), .val (.ref a2), .val (.ref a2)] [])) := fun tq kq => G1200 tq (by
    refine XS.astoreN X1199.here hx rfl (hb hby d18_18) rfl rfl (l' := #[.val (.ref a1), .val (.ref a2), .val (.ref a2)]) rfl ?_
    exact kq)
  obtain ⟨T1202, X1202, e1202, st1202⟩ := getS2 X1199 hx hZ hown (host := "") (Or.inl (wd hw 28 rfl)) Via.refl e1199 (hCS.ext hold.2) (g := (mkF m 19 #[.val (.ref a1), .val (.ref a2), .val (.ref a2)] [])) rfl (hb hby d18_19)
  have G1203 : Go p e below A0 (T1202.setTop (mkF m 22 #[.val (.ref a1), .val (.ref a2), .val (.ref a2)] [(.int cs)])) := fun tq kq => G1201 tq (st1202 _ kq)
  have G1204 : Go p e below A0 (T1202.setTop (mkF m 26 #[.val (.ref a1), .val (.ref a2), .val (.ref a2)] [(.ref a1)])) := fun tq kq => G1203 tq (by
    refine XS.ifNo X1202.here hx rfl (hb hby d18_22) rfl ((if0 _ _).trans (feq hcs).1) ?_
    refine XS.aloadN X1202.here hx rfl (hb hby d18_25) rfl rfl ?_
    exact kq)
  obtain ⟨T1205, X1205, e1205, st1205⟩ := getF X1202 hx hZ hown (host := "") (Or.inl (wd hw 29 rfl)) Via.refl e1202 Fc1 (g := (mkF m 26 #[.val (.ref a1), .val (.ref a2), .val (.ref a2)] [(.ref a1)])) rfl rfl (hb hby d18_26)
  have G1206 : Go p e below A0 (T1205.setTop (mkF m 29 #[.val (.ref a1), .val (.ref a2), .val (.ref a2)] [(.int 0)])) := fun tq kq => G1204 tq (st1205 _ kq)
  have G1207 : Go p e below A0 (T1205.setTop (mkF m 30 #[.val (.ref a1), .val (.ref a2), .val (.ref a2)] [(.ref a2), (.int 0)])) := fun tq kq => G1206 tq (by
    refine XS.aloadN X1205.here hx rfl (hb hby d18_29) rfl rfl ?_
    exact kq)
  obtain ⟨T1208, X1208, e1208, st1208⟩ := getF X1205 hx hZ hown (host := "") (Or.inl (wd hw 29 rfl)) Via.refl e1205 Fc2 (g := (mkF m 30 #[.val (.ref a1), .val (.ref a2), .val (.ref a2)] [(.ref a2), (.int 0)])) rfl rfl (hb hby d18_30)
  have G1209 : Go p e below A0 (T1208.setTop (mkF m 33 #[.val (.ref a1), .val (.ref a2), .val (.ref a2)] [(.int 0), (.int 0)])) := fun tq kq => G1207 tq (st1208 _ kq)
  have G1210 : Go p e below A0 (T1208.setTop (mkF m 37 #[.val (.ref a1), .val (.ref a2), .val (.ref a2)] [(.ref a1)])) := fun tq kq => G1209 tq (by
    refine XS.icmpNo X1208.here hx rfl (hb hby d18_33) rfl (by decide) ?_
    refine XS.aloadN X1208.here hx rfl (hb hby d18_36) rfl rfl ?_
    exact kq)
  obtain ⟨T1211, X1211, e1211, st1211⟩ := getF X1208 hx hZ hown (host := "") (Or.inl (wd hw 22 rfl)) Via.refl e1208 Fv1 (g := (mkF m 37 #[.val (.ref a1), .val (.ref a2), .val (.ref a2)] [(.ref a1)])) rfl rfl (hb hby d18_37)
  have G1212 : Go p e below A0 (T1211.setTop (mkF m 40 #[.val (.ref a1), .val (.ref a2), .val (.ref a2)] [(.ref b1)])) := fun tq kq => G1210 tq (st1211 _ kq)
  have G1213 : Go p e below A0 (T1211.setTop (mkF m 41 #[.val (.ref a1), .val (.ref a2), .val (.ref a2)] [(.ref a2), (.ref b1)])) := fun tq kq => G1212 tq (by
    refine XS.aloadN X1211.here hx rfl (hb hby d18_40) rfl rfl ?_
    exact kq)
  obtain ⟨T1214, X1214, e1214, st1214⟩ := getF X1211 hx hZ hown (host := "") (Or.inl (wd hw 22 rfl)) Via.refl e1211 Fv2 (g := (mkF m 41 #[.val (.ref a1), .val (.ref a2), .val (.ref a2)] [(.ref a2), (.ref b1)])) rfl rfl (hb hby d18_41)
  have G1215 : Go p e below A0 (T1214.setTop (mkF m 44 #[.val (.ref a1), .val (.ref a2), .val (.ref a2)] [(.ref b2), (.ref b1)])) := fun tq kq => G1213 tq (st1214 _ kq)
  obtain ⟨_, _, ⟨T1216, L1216, k1216, n1216⟩, -, X1216, ⟨Lc1216, hQ1216, l1216, y1216, z1216⟩, st1216⟩ := Jvm.LawKit.callS X1214 hx (y := (⟨"java/lang/StringLatin1", "equals", "([B[B)Z"⟩ : MethodName)) hown (mvT hZ (wd hw 102 rfl)) (mvT hZ (wd hw 103 rfl)) (mvT hZ (wd hw 42 rfl)) (mvT hZ (wd hw 104 rfl)) (by decide) (backOf (W := 0) (rmSEX l Z a0 hw [] b1 b2 k1 k2 g1 g2 n1 n2 h0 n0 Z0 A1 A2 hnn) hZ (wd hw 104 rfl) (wd hw 42 rfl) (by decide) (by decide)) (g := (mkF m 44 #[.val (.ref a1), .val (.ref a2), .val (.ref a2)] [(.ref b2), (.ref b1)])) rfl (by rw [hml]; rfl) (argsL := [(.ref b1), (.ref b2)]) (rest := []) (lenOf pd_16 rfl) rfl (by show 2 * 0 + _ ≤ _; exact Nat.le_of_eq rfl) (hb hby d18_44) (fun _ _ => ⟨rfl, e1214, (by decide : 0 + 0 ≤ _), (by decide : 0 + 0 ≤ _)⟩)
  dsimp only [Pt.U, Pt.locs, Pt.cells, Pt.slots] at X1216 l1216 y1216 z1216 st1216 hQ1216
  obtain rfl : k1216 = 0 := y1216
  obtain rfl : n1216 = 0 := z1216
  obtain ⟨rfl, N1216q, e1216⟩ := hQ1216
  have N1216 : Fr n0 L1216 := by rw [l1216]; exact Fr.app N0 N1216q
  have G1217 : Go p e below A0 (T1216.setTop (mkF m 47 #[.val (.ref a1), .val (.ref a2), .val (.ref a2)] [(.int 0)])) := fun tq kq => G1215 tq (st1216 _ kq)
  have G1218 : Go p e below A0 (T1216.setTop (mkF m 55 #[.val (.ref a1), .val (.ref a2), .val (.ref a2)] [(.int 0)])) := fun tq kq => G1217 tq (by
    refine XS.ifYes X1216.here hx rfl (pc0 := 47) (pc' := 54) rfl (hb hby d18_47) rfl (by decide) (by decide) (by decide) ?_
    refine XS.iconst X1216.here hx rfl (hb hby d18_54) ?_
    exact kq)
  obtain ⟨fs, hr, hrun, hended, hW, hsame⟩ := X1216.leave (v := some (.int (nar .boolean (0 : Int32)))) (fun h => by rw [Bd.returns] at h; cases h)
  refine ⟨_, _, (by rw [← hA0]; exact G1218 _ (retN X1216 hx (t := .boolean) Bd.returns (by simp) (hb hby d18_55) hr)), hrun, hended, _, _, rfl, ?_, ⟨_, rfl⟩, hW, hsame.mono (by decide) (by decide)⟩
  exact ⟨rfl, N1216, e1216⟩
set_option maxRecDepth 65536 in
set_option maxHeartbeats 40000000 in
theorem rmEqN (l : Launch) (Z : State) (a0 : Array Value) (hw : ∀ d ∈ tables_1, d.before a0 Z = true) (ws : List Jvm.Cond) (a1 : Addr) (h0 : Heap) (n0 : Nat) (Z0 : n0 ≤ h0.size) :
    MetFree l (⟨"java/lang/String", "equals", "(Ljava/lang/Object;)Z"⟩ : MethodName) (head1 (Jvm.Cond.code (⟨"java/lang/String", "equals", "(Ljava/lang/Object;)Z"⟩ : MethodName) jdk_42_method_66_code 3 (some .boolean) :: ws) (Rm 0 0 0 0)) (fun aa UU => aa = #[(.ref a1), .null] ∧ Z.Warmed39 UU.vm ∧ UU.heap = h0) (fun _ _ _ _ _ => True) (fun _ UU oo U' => ∃ v L, oo = .returned v ∧ Qr (.int 0) h0 n0 v U'.heap L ∧ FrameEnd UU oo U' L (Rm 0 0 0 0).cells (Rm 0 0 0 0).slots) := by
  refine MetFree.of_bodySF (plainFor_of_name pn_1) hisR ?_
  intro p e s m args below meth c s₁ Bd hml0 hP hK
  obtain ⟨rfl, hZ, hh⟩ := hP
  have hx := Bd.exec
  have hby := Bd.bytes
  have hml : c.maxLocals = 3 := hml0
  have hown : s.vm.findClass "java/lang/String" = some m.cls := findClass_of_methodNamed Bd.named
  have hnm := (name_of_methodNamed Bd.named Bd.method).1
  have X0 : Stand p l e (Rm 0 0 0 0) s m #[(.ref a1), .null] below meth c s₁ [] 0 0 := Stand.of_body Bd
  have e0 : s₁.heap = h0 := by rw [← hh, Bd.state]; rfl
  have N0 := Fr.nil n0
  obtain ⟨A0, hA0⟩ : ∃ A, A = s₁.setTop (entryFrame m #[(.ref a1), .null] 3) := ⟨_, rfl⟩
  have G0 : Go p e below A0 (s₁.setTop (mkF m 0 #[.val (.ref a1), .val .null, .unset] [])) := fun tq kq => by rw [hA0]; exact castTop (ef_rmEqN m a1) kq
  have G1219 : Go p e below A0 (s₁.setTop (mkF m 8 #[.val (.ref a1), .val .null, .unset] [.null])) := fun tq kq => G0 tq (by
    refine XS.aloadN X0.here hx rfl (hb hby d18_0) rfl rfl ?_
    refine XS.aloadN X0.here hx rfl (hb hby d18_1) rfl rfl ?_
    refine Jvm.RoadKit.acmp (g := (mkF m 2 #[.val (.ref a1), .val .null, .unset] [.null, (.ref a1)])) X0 hx rfl rfl rfl (pc0 := 2) (pc' := 7) (same := false) rfl (hb hby d18_2) rfl (decide_eq_false nofun) (by decide) (by decide) ?_
    refine XS.aloadN X0.here hx rfl (hb hby d18_7) rfl rfl ?_
    exact kq)
  have G1220 : Go p e below A0 (s₁.setTop (mkF m 55 #[.val (.ref a1), .val .null, .unset] [(.int 0)])) := fun tq kq => G1219 tq (by
    refine X0.instanceofNull hx (g := (mkF m 8 #[.val (.ref a1), .val .null, .unset] [.null])) rfl rfl (hb hby d18_8) _ ?_
    show Steps p.tables e below (s₁.setTop (mkF m 11 #[.val (.ref a1), .val .null, .unset] [(.int 0)])) _
    refine XS.ifYes X0.here hx rfl (pc0 := 11) (pc' := 54) rfl (hb hby d18_11) rfl (by decide) (by decide) (by decide) ?_
    refine XS.iconst X0.here hx rfl (hb hby d18_54) ?_
    exact kq)
  obtain ⟨fs, hr, hrun, hended, hW, hsame⟩ := X0.leave (v := some (.int (nar .boolean (0 : Int32)))) (fun h => by rw [Bd.returns] at h; cases h)
  refine ⟨_, _, (by rw [← hA0]; exact G1220 _ (retN X0 hx (t := .boolean) Bd.returns (by simp) (hb hby d18_55) hr)), hrun, hended, _, _, rfl, ?_, ⟨_, rfl⟩, hW, hsame.mono (by decide) (by decide)⟩
  exact ⟨rfl, N0, e0⟩
def Qv (Z : State) (dp ip : Addr) (h0 : Heap) (n0 : Nat) (v : Option Value) (h : Heap) (L : List Loc) : Prop := ∃ b kb, v = some (.ref b) ∧ Fr n0 L ∧ Keep h0 h [] ∧ Arv Z h b kb (.object "com/example/role_delegation/roledelegation/RevocationKind") (2 : Int32) [.ref dp, .ref ip] .null
set_option maxRecDepth 65536 in
set_option maxHeartbeats 40000000 in
theorem rmVL (l : Launch) (Z : State) (a0 : Array Value) (hw : ∀ d ∈ tables_1, d.before a0 Z = true) (ws : List Jvm.Cond) (va : Addr) (kv : ClassId) (dp ip : Addr) (h0 : Heap) (n0 : Nat) (Z0 : n0 ≤ h0.size) (hVS : Sta Z Z.heap "com/example/role_delegation/roledelegation/RevocationKind" "$VALUES" "[Lcom/example/role_delegation/roledelegation/RevocationKind;" (.ref va)) (hEV : Exa Z Z.heap va "[Lcom/example/role_delegation/roledelegation/RevocationKind;") (hAV : Arv Z Z.heap va kv (.object "com/example/role_delegation/roledelegation/RevocationKind") (2 : Int32) [.ref dp, .ref ip] .null) (hold : Old Z n0 h0) :
    MetFree l (⟨"com/example/role_delegation/roledelegation/RevocationKind", "values", "()[Lcom/example/role_delegation/roledelegation/RevocationKind;"⟩ : MethodName) (head1 (Jvm.Cond.code (⟨"com/example/role_delegation/roledelegation/RevocationKind", "values", "()[Lcom/example/role_delegation/roledelegation/RevocationKind;"⟩ : MethodName) prog_51_method_1_code 0 (some (.array (.object "com/example/role_delegation/roledelegation/RevocationKind"))) :: ws) (Rm 1 1 2 14)) (fun aa UU => aa = #[] ∧ Z.Warmed39 UU.vm ∧ UU.heap = h0) (fun _ _ _ _ _ => True) (fun _ UU oo U' => ∃ v L, oo = .returned v ∧ Qv Z dp ip h0 n0 v U'.heap L ∧ FrameEnd UU oo U' L (Rm 1 1 2 14).cells (Rm 1 1 2 14).slots) := by
  refine MetFree.of_bodySF (plainFor_of_name pn_5) hisR ?_
  intro p e s m args below meth c s₁ Bd hml0 hP hK
  obtain ⟨rfl, hZ, hh⟩ := hP
  have hx := Bd.exec
  have hby := Bd.bytes
  have hml : c.maxLocals = 0 := hml0
  have hown : s.vm.findClass "com/example/role_delegation/roledelegation/RevocationKind" = some m.cls := findClass_of_methodNamed Bd.named
  have hnm := (name_of_methodNamed Bd.named Bd.method).1
  have X0 : Stand p l e (Rm 1 1 2 14) s m #[] below meth c s₁ [] 0 0 := Stand.of_body Bd
  have e0 : s₁.heap = h0 := by rw [← hh, Bd.state]; rfl
  have N0 := Fr.nil n0
  obtain ⟨A0, hA0⟩ : ∃ A, A = s₁.setTop (entryFrame m #[] 0) := ⟨_, rfl⟩
  have G0 : Go p e below A0 (s₁.setTop (mkF m 0 #[] [])) := fun tq kq => by rw [hA0]; exact castTop (ef_rmVL m ) kq
  obtain ⟨T1221, X1221, e1221, st1221⟩ := getS2 X0 hx hZ hown (host := "") (Or.inl (wd hw 80 rfl)) Via.refl e0 (hVS.ext hold.2) (g := (mkF m 0 #[] [])) rfl (hb hby d17_0)
  have G1222 : Go p e below A0 (T1221.setTop (mkF m 3 #[] [(.ref va)])) := fun tq kq => G0 tq (st1221 _ kq)
  obtain ⟨T1223, h1223, X1223, e1223, E1223, V1223, Ex1223, st1223⟩ := cloneH X1221 hx hZ hown (wd hw 82 rfl) (wd hw 83 rfl) (wd hw 87 rfl) (wd hw 85 rfl) (wd hw 86 rfl) (wd hw 88 rfl) e1221 (Arv.arh (hAV.ext hold.2)) (hEV.ext hold.2) (g := (mkF m 3 #[] [(.ref va)])) rfl (by rw [hml]; rfl) rfl (hb hby d17_3) (by decide) (W := 0) (by show 2 * 0 + _ ≤ _; exact Nat.le_of_eq rfl) (by decide) (cap := 2) (by decide) (by decide) (by decide)
  obtain ⟨b1223, g1223⟩ : ∃ z, z = h0.size := ⟨_, rfl⟩
  rw [← g1223] at V1223 st1223 Ex1223
  have sz_b1223 : h0.size ≤ b1223 := Nat.le_trans (Nat.le_refl h0.size) (Nat.le_of_eq g1223.symm)
  have g_b1223 : n0 ≤ b1223 := Nat.le_trans Z0 (Nat.le_of_eq g1223.symm)
  have lt_va_b1223 : va < b1223 := Nat.lt_of_lt_of_le (hEV.ext hold.2).lt (Nat.le_of_eq g1223.symm)
  have V1223' : Arv Z h1223 b1223 kv (.object "com/example/role_delegation/roledelegation/RevocationKind") (2 : Int32) [(.ref dp), (.ref ip)] .null := V1223
  have G1224 : Go p e below A0 (T1223.setTop (mkF m 6 #[] [(.ref b1223)])) := fun tq kq => G1222 tq (st1223 _ kq)
  obtain ⟨T1225, X1225, e1225, st1225⟩ := castY X1223 hx hZ hown (wd hw 92 rfl) e1223 (Ins.self Ex1223) (g := (mkF m 6 #[] [(.ref b1223)])) rfl rfl (hb hby d17_6)
  have G1226 : Go p e below A0 (T1225.setTop (mkF m 9 #[] [(.ref b1223)])) := fun tq kq => G1224 tq (st1225 _ kq)
  obtain ⟨fs, hr, hrun, hended, hW, hsame⟩ := X1225.leave (v := some (.ref b1223)) (fun h => by rw [Bd.returns] at h; cases h)
  refine ⟨_, _, (by rw [← hA0]; exact G1226 _ (retOut X1225 hx (t := (.array (.object "com/example/role_delegation/roledelegation/RevocationKind"))) Bd.returns rfl (Or.inr (Or.inr (Or.inr (Or.inr ⟨rfl, rfl, rfl⟩)))) (hb hby d17_9) hr)), hrun, hended, _, _, rfl, ?_, ⟨_, rfl⟩, hW, hsame.mono (by decide) (by decide)⟩
  show Qv Z dp ip h0 n0 _ T1225.heap _
  rw [e1225]
  exact ⟨b1223, kv, rfl, N0, ((Keep.refl h0 []).ext E1223), V1223'⟩
def Qnm (r : Value) (h0 : Heap) (n0 : Nat) (v : Option Value) (h : Heap) (L : List Loc) : Prop := v = some r ∧ Fr n0 L ∧ Keep h0 h []
set_option maxRecDepth 65536 in
set_option maxHeartbeats 40000000 in
theorem rmNN (l : Launch) (Z : State) (a0 : Array Value) (hw : ∀ d ∈ tables_1, d.before a0 Z = true) (ws : List Jvm.Cond) (va : Addr) (kv : ClassId) (dp ip : Addr) (dw db iw ib : Addr) (kd ki : ClassId)(cs : Int32) (fo : Value) (h0 : Heap) (n0 : Nat) (Z0 : n0 ≤ h0.size) (hVS : Sta Z Z.heap "com/example/role_delegation/roledelegation/RevocationKind" "$VALUES" "[Lcom/example/role_delegation/roledelegation/RevocationKind;" (.ref va)) (hEV : Exa Z Z.heap va "[Lcom/example/role_delegation/roledelegation/RevocationKind;") (hAV : Arv Z Z.heap va kv (.object "com/example/role_delegation/roledelegation/RevocationKind") (2 : Int32) [.ref dp, .ref ip] .null) (hWd : Wd Z Z.heap dp dw db kd (9 : Int32) t_D) (hWi : Wd Z Z.heap ip iw ib ki (11 : Int32) t_I) (hCS : Sta Z Z.heap "java/lang/String" "COMPACT_STRINGS" "Z" (.int cs)) (hcs : ¬ cs = (0 : Int32)) (hSF : Sta Z Z.heap "jdk/internal/util/Preconditions" "SIOOBE_FORMATTER" "Ljava/util/function/BiFunction;" fo) (hfo : fo.isRef = true) (hold : Old Z n0 h0) :
    MetFree l (⟨"com/example/role_delegation/roledelegation/RevocationKind", "named", "(Ljava/lang/String;)Lcom/example/role_delegation/roledelegation/RevocationKind;"⟩ : MethodName) (head1 (Jvm.Cond.code (⟨"com/example/role_delegation/roledelegation/RevocationKind", "named", "(Ljava/lang/String;)Lcom/example/role_delegation/roledelegation/RevocationKind;"⟩ : MethodName) prog_51_method_5_code 6 (some (.object "com/example/role_delegation/roledelegation/RevocationKind")) :: ws) (Rm 2 1 2 25)) (fun aa UU => aa = #[.null] ∧ Z.Warmed39 UU.vm ∧ UU.heap = h0) (fun _ _ _ _ _ => True) (fun _ UU oo U' => ∃ v L, oo = .returned v ∧ Qnm .null h0 n0 v U'.heap L ∧ FrameEnd UU oo U' L (Rm 2 1 2 25).cells (Rm 2 1 2 25).slots) := by
  refine MetFree.of_bodySF (plainFor_of_name pn_5) hisR ?_
  intro p e s m args below meth c s₁ Bd hml0 hP hK
  obtain ⟨rfl, hZ, hh⟩ := hP
  have hx := Bd.exec
  have hby := Bd.bytes
  have hml : c.maxLocals = 6 := hml0
  have hown : s.vm.findClass "com/example/role_delegation/roledelegation/RevocationKind" = some m.cls := findClass_of_methodNamed Bd.named
  have hnm := (name_of_methodNamed Bd.named Bd.method).1
  have X0 : Stand p l e (Rm 2 1 2 25) s m #[.null] below meth c s₁ [] 0 0 := Stand.of_body Bd
  have e0 : s₁.heap = h0 := by rw [← hh, Bd.state]; rfl
  have N0 := Fr.nil n0
  obtain ⟨A0, hA0⟩ : ∃ A, A = s₁.setTop (entryFrame m #[.null] 6) := ⟨_, rfl⟩
  have G0 : Go p e below A0 (s₁.setTop (mkF m 0 #[.val .null, .unset, .unset, .unset, .unset, .unset] [])) := fun tq kq => by rw [hA0]; exact castTop (ef_rmNN m ) kq
  obtain ⟨E1, F1, Fv1, Fc1, A1⟩ := hWd.ext hold.2
  obtain ⟨E2, F2, Fv2, Fc2, A2⟩ := hWi.ext hold.2
  have G1227 : Go p e below A0 (s₁.setTop (mkF m 2 #[.val .null, .val .null, .unset, .unset, .unset, .unset] [])) := fun tq kq => G0 tq (by
    refine XS.aconstNull X0.here hx rfl (hb hby d16_0) ?_
    refine XS.astoreN X0.here hx rfl (hb hby d16_1) rfl rfl (l' := #[.val .null, .val .null, .unset, .unset, .unset, .unset]) rfl ?_
    exact kq)
  obtain ⟨_, _, ⟨T1228, L1228, k1228, n1228⟩, -, X1228, ⟨Lc1228, hQ1228, l1228, y1228, z1228⟩, st1228⟩ := Jvm.LawKit.callS X0 hx (y := (⟨"com/example/role_delegation/roledelegation/RevocationKind", "values", "()[Lcom/example/role_delegation/roledelegation/RevocationKind;"⟩ : MethodName)) hown (mvT hZ (wd hw 77 rfl)) (mvT hZ (wd hw 78 rfl)) (mvT hZ (wd hw 75 rfl)) (mvT hZ (wd hw 79 rfl)) (by decide) (backOf (W := 0) (rmVL l Z a0 hw [] va kv dp ip h0 n0 Z0 hVS hEV hAV hold) hZ (wd hw 79 rfl) (wd hw 75 rfl) (by decide) (by decide)) (g := (mkF m 2 #[.val .null, .val .null, .unset, .unset, .unset, .unset] [])) rfl (by rw [hml]; rfl) (argsL := []) (rest := []) (lenOf pd_17 rfl) rfl (by show 2 * 0 + _ ≤ _; exact Nat.le_of_eq rfl) (hb hby d16_2) (fun _ _ => ⟨rfl, e0, (by decide : 0 + 1 ≤ _), (by decide : 0 + 2 ≤ _)⟩)
  dsimp only [Pt.U, Pt.locs, Pt.cells, Pt.slots] at X1228 l1228 y1228 z1228 st1228 hQ1228
  obtain rfl : k1228 = 1 := y1228
  obtain rfl : n1228 = 2 := z1228
  obtain ⟨vb1228, vk1228, rfl, N1228q, K1228, Av1228⟩ := hQ1228
  have N1228 : Fr n0 L1228 := by rw [l1228]; exact Fr.app N0 N1228q
  have G1229 : Go p e below A0 (T1228.setTop (mkF m 5 #[.val .null, .val .null, .unset, .unset, .unset, .unset] [(.ref vb1228)])) := fun tq kq => G1227 tq (st1228 _ kq)
  have G1230 : Go p e below A0 (T1228.setTop (mkF m 7 #[.val .null, .val .null, .val (.ref vb1228), .unset, .unset, .unset] [(.ref vb1228)])) := fun tq kq => G1229 tq (by
    refine XS.astoreN X1228.here hx rfl (hb hby d16_5) rfl rfl (l' := #[.val .null, .val .null, .val (.ref vb1228), .unset, .unset, .unset]) rfl ?_
    refine XS.aloadN X1228.here hx rfl (hb hby d16_6) rfl rfl ?_
    exact kq)
  obtain ⟨cl1231, Ar1231, q1231, S1231, M1231, H1231, Gf1231⟩ := id Av1228
  have G1232 : Go p e below A0 (T1228.setTop (mkF m 21 #[.val .null, .val .null, .val (.ref vb1228), .val (.int 2), .val (.int 0), .unset] [(.int 0), (.ref vb1228)])) := fun tq kq => G1230 tq (by
    refine X1228.arraylength hx Ar1231.1 (State.isArrayOf_alike hZ.alike Ar1231.2.1) (g := (mkF m 7 #[.val .null, .val .null, .val (.ref vb1228), .unset, .unset, .unset] [(.ref vb1228)])) rfl rfl (hb hby d16_7) _ ?_
    rw [len_of S1231 M1231]
    show Steps p.tables e below (T1228.setTop (mkF m 8 #[.val .null, .val .null, .val (.ref vb1228), .unset, .unset, .unset] [(.int 2)])) _
    refine XS.istoreN X1228.here hx rfl (hb hby d16_8) rfl (l' := #[.val .null, .val .null, .val (.ref vb1228), .val (.int 2), .unset, .unset]) rfl ?_
    refine XS.iconst X1228.here hx rfl (hb hby d16_9) ?_
    refine XS.istore X1228.here hx rfl (hb hby d16_10) rfl (l' := #[.val .null, .val .null, .val (.ref vb1228), .val (.int 2), .val (.int 0), .unset]) rfl ?_
    refine XS.iload X1228.here hx rfl (hb hby d16_12) rfl ?_
    refine XS.iloadN X1228.here hx rfl (hb hby d16_14) rfl ?_
    refine XS.icmpNo X1228.here hx rfl (hb hby d16_15) rfl (by decide) ?_
    refine XS.aloadN X1228.here hx rfl (hb hby d16_18) rfl rfl ?_
    refine XS.iload X1228.here hx rfl (hb hby d16_19) rfl ?_
    exact kq)
  obtain ⟨cl1233, Ar1233, q1233, S1233, M1233, H1233, Gf1233⟩ := id Av1228
  have hi1234 : ¬ ((0 : Int32) < 0 ∨ cl1233.slots.size ≤ ((0 : Int32)).toNatClampNeg) := (inb_of S1233 ⟨by decide, by decide⟩)
  have G1235 : Go p e below A0 (T1228.setTop (mkF m 26 #[.val .null, .val .null, .val (.ref vb1228), .val (.int 2), .val (.int 0), .val (.ref dp)] [(.ref dp)])) := fun tq kq => G1232 tq (by
    refine X1228.aaload hx (j := (0 : Int32)) (v := (.ref dp)) Ar1233.1 (State.isArrayOf_alike hZ.alike Ar1233.2.1) rfl Ar1233.2.2 hi1234 (H1233.at hi1234 rfl) (g := (mkF m 21 #[.val .null, .val .null, .val (.ref vb1228), .val (.int 2), .val (.int 0), .unset] [(.int 0), (.ref vb1228)])) rfl rfl (hb hby d16_21) _ ?_
    show Steps p.tables e below (T1228.setTop (mkF m 22 #[.val .null, .val .null, .val (.ref vb1228), .val (.int 2), .val (.int 0), .unset] [(.ref dp)])) _
    refine XS.astore X1228.here hx rfl (hb hby d16_22) rfl rfl (l' := #[.val .null, .val .null, .val (.ref vb1228), .val (.int 2), .val (.int 0), .val (.ref dp)]) rfl ?_
    refine XS.aload X1228.here hx rfl (hb hby d16_24) rfl rfl ?_
    exact kq)
  have f1236 := (F1.keep K1228 nin0)
  obtain ⟨T1237, X1237, e1237, st1237⟩ := getF X1228 hx hZ hown (host := "") (Or.inl (wd hw 94 rfl)) Via.refl rfl f1236 (g := (mkF m 26 #[.val .null, .val .null, .val (.ref vb1228), .val (.int 2), .val (.int 0), .val (.ref dp)] [(.ref dp)])) rfl rfl (hb hby d16_26)
  have G1238 : Go p e below A0 (T1237.setTop (mkF m 29 #[.val .null, .val .null, .val (.ref vb1228), .val (.int 2), .val (.int 0), .val (.ref dp)] [(.ref dw)])) := fun tq kq => G1235 tq (st1237 _ kq)
  have G1239 : Go p e below A0 (T1237.setTop (mkF m 30 #[.val .null, .val .null, .val (.ref vb1228), .val (.int 2), .val (.int 0), .val (.ref dp)] [.null, (.ref dw)])) := fun tq kq => G1238 tq (by
    refine XS.aloadN X1237.here hx rfl (hb hby d16_29) rfl rfl ?_
    exact kq)
  have f1241 := (Nat.le_trans Z0 K1228.1)
  have f1242 := (E1.keep K1228)
  obtain ⟨cq1240, kq1240, q1240a, q1240b, q1240c⟩ := isOf hZ e1237 f1242
  obtain ⟨_, _, ⟨T1240, L1240, k1240, n1240⟩, -, X1240, ⟨Lc1240, hQ1240, l1240, y1240, z1240⟩, st1240⟩ := X1237.virtualBack hx (y := (⟨"java/lang/String", "equals", "(Ljava/lang/Object;)Z"⟩ : MethodName)) (z := (⟨"java/lang/String", "equals", "(Ljava/lang/Object;)Z"⟩ : MethodName)) hown (mvT hZ (wd hw 96 rfl)) (mvT hZ (wd hw 97 rfl)) (notFace_of_selects (args := #[]) (mvT hZ (wd hw 99 rfl))) (mvT hZ (wd hw 99 rfl)) (mvT hZ (wd hw 98 rfl)) (by decide) (backOf (W := 0) (rmEqN l Z a0 hw [] dw T1228.heap n0 f1241) hZ (wd hw 100 rfl) (wd hw 2 rfl) (by decide) (by decide)) q1240a q1240c (g := (mkF m 30 #[.val .null, .val .null, .val (.ref vb1228), .val (.int 2), .val (.int 0), .val (.ref dp)] [.null, (.ref dw)])) rfl (by rw [hml]; rfl) (Steps.refl _) (argsL := [.null]) (rest := []) (lenOf pd_18 rfl) rfl (by show 2 * 0 + _ ≤ _; exact Nat.le_of_eq rfl) (hb hby d16_30) (fun _ _ => ⟨rfl, e1237, (by decide : 1 + 0 ≤ _), (by decide : 2 + 0 ≤ _)⟩)
  dsimp only [Pt.U, Pt.locs, Pt.cells, Pt.slots] at X1240 l1240 y1240 z1240 st1240 hQ1240
  obtain rfl : k1240 = 1 := y1240
  obtain rfl : n1240 = 2 := z1240
  obtain ⟨rfl, N1240q, e1240⟩ := hQ1240
  have N1240 : Fr n0 L1240 := by rw [l1240]; exact Fr.app N1228 N1240q
  have G1243 : Go p e below A0 (T1240.setTop (mkF m 33 #[.val .null, .val .null, .val (.ref vb1228), .val (.int 2), .val (.int 0), .val (.ref dp)] [(.int 0)])) := fun tq kq => G1239 tq (st1240.trans kq)
  have G1244 : Go p e below A0 (T1240.setTop (mkF m 21 #[.val .null, .val .null, .val (.ref vb1228), .val (.int 2), .val (.int 1), .val (.ref dp)] [(.int 1), (.ref vb1228)])) := fun tq kq => G1243 tq (by
    refine XS.ifYes X1240.here hx rfl (pc0 := 33) (pc' := 39) rfl (hb hby d16_33) rfl (by decide) (by decide) (by decide) ?_
    refine XS.iinc X1240.here hx rfl (hb hby d16_39) rfl (l' := #[.val .null, .val .null, .val (.ref vb1228), .val (.int 2), .val (.int ((0 : Int32) + (1 : Int32))), .val (.ref dp)]) rfl ?_
    show Steps p.tables e below (T1240.setTop (mkF m 42 #[.val .null, .val .null, .val (.ref vb1228), .val (.int 2), .val (.int ((0 : Int32) + (1 : Int32))), .val (.ref dp)] [])) _
    rw [show ((0 : Int32) + (1 : Int32)) = (1 : Int32) from (by decide : ((0 : Int32) + (1 : Int32)) = (1 : Int32))]
    show Steps p.tables e below (T1240.setTop (mkF m 42 #[.val .null, .val .null, .val (.ref vb1228), .val (.int 2), .val (.int 1), .val (.ref dp)] [])) _
    refine XS.goto X1240.here hx rfl (pc0 := 42) (pc' := 12) rfl (hb hby d16_42) (by decide) (by decide) ?_
    refine XS.iload X1240.here hx rfl (hb hby d16_12) rfl ?_
    refine XS.iloadN X1240.here hx rfl (hb hby d16_14) rfl ?_
    refine XS.icmpNo X1240.here hx rfl (hb hby d16_15) rfl (by decide) ?_
    refine XS.aloadN X1240.here hx rfl (hb hby d16_18) rfl rfl ?_
    refine XS.iload X1240.here hx rfl (hb hby d16_19) rfl ?_
    exact kq)
  obtain ⟨cl1245, Ar1245, q1245, S1245, M1245, H1245, Gf1245⟩ := id Av1228
  have hi1246 : ¬ ((1 : Int32) < 0 ∨ cl1245.slots.size ≤ ((1 : Int32)).toNatClampNeg) := (inb_of S1245 ⟨by decide, by decide⟩)
  have G1247 : Go p e below A0 (T1240.setTop (mkF m 26 #[.val .null, .val .null, .val (.ref vb1228), .val (.int 2), .val (.int 1), .val (.ref ip)] [(.ref ip)])) := fun tq kq => G1244 tq (by
    refine X1240.aaload hx (j := (1 : Int32)) (v := (.ref ip)) (by rw [e1240]; exact Ar1245.1) (State.isArrayOf_alike hZ.alike Ar1245.2.1) rfl Ar1245.2.2 hi1246 (H1245.at hi1246 rfl) (g := (mkF m 21 #[.val .null, .val .null, .val (.ref vb1228), .val (.int 2), .val (.int 1), .val (.ref dp)] [(.int 1), (.ref vb1228)])) rfl rfl (hb hby d16_21) _ ?_
    show Steps p.tables e below (T1240.setTop (mkF m 22 #[.val .null, .val .null, .val (.ref vb1228), .val (.int 2), .val (.int 1), .val (.ref dp)] [(.ref ip)])) _
    refine XS.astore X1240.here hx rfl (hb hby d16_22) rfl rfl (l' := #[.val .null, .val .null, .val (.ref vb1228), .val (.int 2), .val (.int 1), .val (.ref ip)]) rfl ?_
    refine XS.aload X1240.here hx rfl (hb hby d16_24) rfl rfl ?_
    exact kq)
  have f1248 := (F2.keep K1228 nin0)
  obtain ⟨T1249, X1249, e1249, st1249⟩ := getF X1240 hx hZ hown (host := "") (Or.inl (wd hw 94 rfl)) Via.refl e1240 f1248 (g := (mkF m 26 #[.val .null, .val .null, .val (.ref vb1228), .val (.int 2), .val (.int 1), .val (.ref ip)] [(.ref ip)])) rfl rfl (hb hby d16_26)
  have G1250 : Go p e below A0 (T1249.setTop (mkF m 29 #[.val .null, .val .null, .val (.ref vb1228), .val (.int 2), .val (.int 1), .val (.ref ip)] [(.ref iw)])) := fun tq kq => G1247 tq (st1249 _ kq)
  have G1251 : Go p e below A0 (T1249.setTop (mkF m 30 #[.val .null, .val .null, .val (.ref vb1228), .val (.int 2), .val (.int 1), .val (.ref ip)] [.null, (.ref iw)])) := fun tq kq => G1250 tq (by
    refine XS.aloadN X1249.here hx rfl (hb hby d16_29) rfl rfl ?_
    exact kq)
  have f1253 := (E2.keep K1228)
  obtain ⟨cq1252, kq1252, q1252a, q1252b, q1252c⟩ := isOf hZ e1249 f1253
  obtain ⟨_, _, ⟨T1252, L1252, k1252, n1252⟩, -, X1252, ⟨Lc1252, hQ1252, l1252, y1252, z1252⟩, st1252⟩ := X1249.virtualBack hx (y := (⟨"java/lang/String", "equals", "(Ljava/lang/Object;)Z"⟩ : MethodName)) (z := (⟨"java/lang/String", "equals", "(Ljava/lang/Object;)Z"⟩ : MethodName)) hown (mvT hZ (wd hw 96 rfl)) (mvT hZ (wd hw 97 rfl)) (notFace_of_selects (args := #[]) (mvT hZ (wd hw 99 rfl))) (mvT hZ (wd hw 99 rfl)) (mvT hZ (wd hw 98 rfl)) (by decide) (backOf (W := 0) (rmEqN l Z a0 hw [] iw T1228.heap n0 f1241) hZ (wd hw 100 rfl) (wd hw 2 rfl) (by decide) (by decide)) q1252a q1252c (g := (mkF m 30 #[.val .null, .val .null, .val (.ref vb1228), .val (.int 2), .val (.int 1), .val (.ref ip)] [.null, (.ref iw)])) rfl (by rw [hml]; rfl) (Steps.refl _) (argsL := [.null]) (rest := []) (lenOf pd_18 rfl) rfl (by show 2 * 0 + _ ≤ _; exact Nat.le_of_eq rfl) (hb hby d16_30) (fun _ _ => ⟨rfl, e1249, (by decide : 1 + 0 ≤ _), (by decide : 2 + 0 ≤ _)⟩)
  dsimp only [Pt.U, Pt.locs, Pt.cells, Pt.slots] at X1252 l1252 y1252 z1252 st1252 hQ1252
  obtain rfl : k1252 = 1 := y1252
  obtain rfl : n1252 = 2 := z1252
  obtain ⟨rfl, N1252q, e1252⟩ := hQ1252
  have N1252 : Fr n0 L1252 := by rw [l1252]; exact Fr.app N1240 N1252q
  have G1254 : Go p e below A0 (T1252.setTop (mkF m 33 #[.val .null, .val .null, .val (.ref vb1228), .val (.int 2), .val (.int 1), .val (.ref ip)] [(.int 0)])) := fun tq kq => G1251 tq (st1252.trans kq)
  have G1255 : Go p e below A0 (T1252.setTop (mkF m 46 #[.val .null, .val .null, .val (.ref vb1228), .val (.int 2), .val (.int 2), .val (.ref ip)] [.null])) := fun tq kq => G1254 tq (by
    refine XS.ifYes X1252.here hx rfl (pc0 := 33) (pc' := 39) rfl (hb hby d16_33) rfl (by decide) (by decide) (by decide) ?_
    refine XS.iinc X1252.here hx rfl (hb hby d16_39) rfl (l' := #[.val .null, .val .null, .val (.ref vb1228), .val (.int 2), .val (.int ((1 : Int32) + (1 : Int32))), .val (.ref ip)]) rfl ?_
    show Steps p.tables e below (T1252.setTop (mkF m 42 #[.val .null, .val .null, .val (.ref vb1228), .val (.int 2), .val (.int ((1 : Int32) + (1 : Int32))), .val (.ref ip)] [])) _
    rw [show ((1 : Int32) + (1 : Int32)) = (2 : Int32) from (by decide : ((1 : Int32) + (1 : Int32)) = (2 : Int32))]
    show Steps p.tables e below (T1252.setTop (mkF m 42 #[.val .null, .val .null, .val (.ref vb1228), .val (.int 2), .val (.int 2), .val (.ref ip)] [])) _
    refine XS.goto X1252.here hx rfl (pc0 := 42) (pc' := 12) rfl (hb hby d16_42) (by decide) (by decide) ?_
    refine XS.iload X1252.here hx rfl (hb hby d16_12) rfl ?_
    refine XS.iloadN X1252.here hx rfl (hb hby d16_14) rfl ?_
    refine XS.icmpYes X1252.here hx rfl (pc0 := 15) (pc' := 45) rfl (hb hby d16_15) rfl (by decide) (by decide) (by decide) ?_
    refine XS.aloadN X1252.here hx rfl (hb hby d16_45) rfl rfl ?_
    exact kq)
  obtain ⟨fs, hr, hrun, hended, hW, hsame⟩ := X1252.leave (v := some .null) (fun h => by rw [Bd.returns] at h; cases h)
  refine ⟨_, _, (by rw [← hA0]; exact G1255 _ (retOut X1252 hx (t := (.object "com/example/role_delegation/roledelegation/RevocationKind")) Bd.returns rfl (Or.inr (Or.inr (Or.inr (Or.inr ⟨rfl, rfl, rfl⟩)))) (hb hby d16_46) hr)), hrun, hended, _, _, rfl, ?_, ⟨_, rfl⟩, hW, hsame.mono (by decide) (by decide)⟩
  show Qnm .null h0 n0 _ T1252.heap _
  rw [e1252]
  exact ⟨rfl, N1252, ((Keep.refl h0 []).trans K1228 all0)⟩
set_option maxRecDepth 65536 in
set_option maxHeartbeats 40000000 in
theorem rmNX (l : Launch) (Z : State) (a0 : Array Value) (hw : ∀ d ∈ tables_1, d.before a0 Z = true) (ws : List Jvm.Cond) (va : Addr) (kv : ClassId) (dp ip : Addr) (dw db iw ib : Addr) (kd ki : ClassId) (a b : Addr) (kb : ClassId) (gf : Nat → Value) (n_ : Int32) (cs : Int32) (fo : Value) (h0 : Heap) (n0 : Nat) (Z0 : n0 ≤ h0.size) (hVS : Sta Z Z.heap "com/example/role_delegation/roledelegation/RevocationKind" "$VALUES" "[Lcom/example/role_delegation/roledelegation/RevocationKind;" (.ref va)) (hEV : Exa Z Z.heap va "[Lcom/example/role_delegation/roledelegation/RevocationKind;") (hAV : Arv Z Z.heap va kv (.object "com/example/role_delegation/roledelegation/RevocationKind") (2 : Int32) [.ref dp, .ref ip] .null) (hWd : Wd Z Z.heap dp dw db kd (9 : Int32) t_D) (hWi : Wd Z Z.heap ip iw ib ki (11 : Int32) t_I) (E : Exa Z h0 a "java/lang/String") (Fv : Fld Z h0 a "java/lang/String" "value" "[B" (.ref b)) (Fc : Fld Z h0 a "java/lang/String" "coder" "B" (.int 0)) (ga : n0 ≤ a) (Ab : Af Z h0 b kb .byte n_ gf) (h9 : ¬ (9 : Int32) = n_) (h11 : ¬ (11 : Int32) = n_) (hCS : Sta Z Z.heap "java/lang/String" "COMPACT_STRINGS" "Z" (.int cs)) (hcs : ¬ cs = (0 : Int32)) (hSF : Sta Z Z.heap "jdk/internal/util/Preconditions" "SIOOBE_FORMATTER" "Ljava/util/function/BiFunction;" fo) (hfo : fo.isRef = true) (hold : Old Z n0 h0) :
    MetFree l (⟨"com/example/role_delegation/roledelegation/RevocationKind", "named", "(Ljava/lang/String;)Lcom/example/role_delegation/roledelegation/RevocationKind;"⟩ : MethodName) (head1 (Jvm.Cond.code (⟨"com/example/role_delegation/roledelegation/RevocationKind", "named", "(Ljava/lang/String;)Lcom/example/role_delegation/roledelegation/RevocationKind;"⟩ : MethodName) prog_51_method_5_code 6 (some (.object "com/example/role_delegation/roledelegation/RevocationKind")) :: ws) (Rm 2 1 2 28)) (fun aa UU => aa = #[(.ref a)] ∧ Z.Warmed39 UU.vm ∧ UU.heap = h0) (fun _ _ _ _ _ => True) (fun _ UU oo U' => ∃ v L, oo = .returned v ∧ Qnm .null h0 n0 v U'.heap L ∧ FrameEnd UU oo U' L (Rm 2 1 2 28).cells (Rm 2 1 2 28).slots) := by
  refine MetFree.of_bodySF (plainFor_of_name pn_5) hisR ?_
  intro p e s m args below meth c s₁ Bd hml0 hP hK
  obtain ⟨rfl, hZ, hh⟩ := hP
  have hx := Bd.exec
  have hby := Bd.bytes
  have hml : c.maxLocals = 6 := hml0
  have hown : s.vm.findClass "com/example/role_delegation/roledelegation/RevocationKind" = some m.cls := findClass_of_methodNamed Bd.named
  have hnm := (name_of_methodNamed Bd.named Bd.method).1
  have X0 : Stand p l e (Rm 2 1 2 28) s m #[(.ref a)] below meth c s₁ [] 0 0 := Stand.of_body Bd
  have e0 : s₁.heap = h0 := by rw [← hh, Bd.state]; rfl
  have N0 := Fr.nil n0
  obtain ⟨A0, hA0⟩ : ∃ A, A = s₁.setTop (entryFrame m #[(.ref a)] 6) := ⟨_, rfl⟩
  have G0 : Go p e below A0 (s₁.setTop (mkF m 0 #[.val (.ref a), .unset, .unset, .unset, .unset, .unset] [])) := fun tq kq => by rw [hA0]; exact castTop (ef_rmNX m a) kq
  obtain ⟨E1, F1, Fv1, Fc1, A1⟩ := hWd.ext hold.2
  obtain ⟨E2, F2, Fv2, Fc2, A2⟩ := hWi.ext hold.2
  have G1256 : Go p e below A0 (s₁.setTop (mkF m 2 #[.val (.ref a), .val .null, .unset, .unset, .unset, .unset] [])) := fun tq kq => G0 tq (by
    refine XS.aconstNull X0.here hx rfl (hb hby d16_0) ?_
    refine XS.astoreN X0.here hx rfl (hb hby d16_1) rfl rfl (l' := #[.val (.ref a), .val .null, .unset, .unset, .unset, .unset]) rfl ?_
    exact kq)
  obtain ⟨_, _, ⟨T1257, L1257, k1257, n1257⟩, -, X1257, ⟨Lc1257, hQ1257, l1257, y1257, z1257⟩, st1257⟩ := Jvm.LawKit.callS X0 hx (y := (⟨"com/example/role_delegation/roledelegation/RevocationKind", "values", "()[Lcom/example/role_delegation/roledelegation/RevocationKind;"⟩ : MethodName)) hown (mvT hZ (wd hw 77 rfl)) (mvT hZ (wd hw 78 rfl)) (mvT hZ (wd hw 75 rfl)) (mvT hZ (wd hw 79 rfl)) (by decide) (backOf (W := 0) (rmVL l Z a0 hw [] va kv dp ip h0 n0 Z0 hVS hEV hAV hold) hZ (wd hw 79 rfl) (wd hw 75 rfl) (by decide) (by decide)) (g := (mkF m 2 #[.val (.ref a), .val .null, .unset, .unset, .unset, .unset] [])) rfl (by rw [hml]; rfl) (argsL := []) (rest := []) (lenOf pd_17 rfl) rfl (by show 2 * 0 + _ ≤ _; exact Nat.le_of_eq rfl) (hb hby d16_2) (fun _ _ => ⟨rfl, e0, (by decide : 0 + 1 ≤ _), (by decide : 0 + 2 ≤ _)⟩)
  dsimp only [Pt.U, Pt.locs, Pt.cells, Pt.slots] at X1257 l1257 y1257 z1257 st1257 hQ1257
  obtain rfl : k1257 = 1 := y1257
  obtain rfl : n1257 = 2 := z1257
  obtain ⟨vb1257, vk1257, rfl, N1257q, K1257, Av1257⟩ := hQ1257
  have N1257 : Fr n0 L1257 := by rw [l1257]; exact Fr.app N0 N1257q
  have G1258 : Go p e below A0 (T1257.setTop (mkF m 5 #[.val (.ref a), .val .null, .unset, .unset, .unset, .unset] [(.ref vb1257)])) := fun tq kq => G1256 tq (st1257 _ kq)
  have G1259 : Go p e below A0 (T1257.setTop (mkF m 7 #[.val (.ref a), .val .null, .val (.ref vb1257), .unset, .unset, .unset] [(.ref vb1257)])) := fun tq kq => G1258 tq (by
    refine XS.astoreN X1257.here hx rfl (hb hby d16_5) rfl rfl (l' := #[.val (.ref a), .val .null, .val (.ref vb1257), .unset, .unset, .unset]) rfl ?_
    refine XS.aloadN X1257.here hx rfl (hb hby d16_6) rfl rfl ?_
    exact kq)
  obtain ⟨cl1260, Ar1260, q1260, S1260, M1260, H1260, Gf1260⟩ := id Av1257
  have G1261 : Go p e below A0 (T1257.setTop (mkF m 21 #[.val (.ref a), .val .null, .val (.ref vb1257), .val (.int 2), .val (.int 0), .unset] [(.int 0), (.ref vb1257)])) := fun tq kq => G1259 tq (by
    refine X1257.arraylength hx Ar1260.1 (State.isArrayOf_alike hZ.alike Ar1260.2.1) (g := (mkF m 7 #[.val (.ref a), .val .null, .val (.ref vb1257), .unset, .unset, .unset] [(.ref vb1257)])) rfl rfl (hb hby d16_7) _ ?_
    rw [len_of S1260 M1260]
    show Steps p.tables e below (T1257.setTop (mkF m 8 #[.val (.ref a), .val .null, .val (.ref vb1257), .unset, .unset, .unset] [(.int 2)])) _
    refine XS.istoreN X1257.here hx rfl (hb hby d16_8) rfl (l' := #[.val (.ref a), .val .null, .val (.ref vb1257), .val (.int 2), .unset, .unset]) rfl ?_
    refine XS.iconst X1257.here hx rfl (hb hby d16_9) ?_
    refine XS.istore X1257.here hx rfl (hb hby d16_10) rfl (l' := #[.val (.ref a), .val .null, .val (.ref vb1257), .val (.int 2), .val (.int 0), .unset]) rfl ?_
    refine XS.iload X1257.here hx rfl (hb hby d16_12) rfl ?_
    refine XS.iloadN X1257.here hx rfl (hb hby d16_14) rfl ?_
    refine XS.icmpNo X1257.here hx rfl (hb hby d16_15) rfl (by decide) ?_
    refine XS.aloadN X1257.here hx rfl (hb hby d16_18) rfl rfl ?_
    refine XS.iload X1257.here hx rfl (hb hby d16_19) rfl ?_
    exact kq)
  obtain ⟨cl1262, Ar1262, q1262, S1262, M1262, H1262, Gf1262⟩ := id Av1257
  have hi1263 : ¬ ((0 : Int32) < 0 ∨ cl1262.slots.size ≤ ((0 : Int32)).toNatClampNeg) := (inb_of S1262 ⟨by decide, by decide⟩)
  have G1264 : Go p e below A0 (T1257.setTop (mkF m 26 #[.val (.ref a), .val .null, .val (.ref vb1257), .val (.int 2), .val (.int 0), .val (.ref dp)] [(.ref dp)])) := fun tq kq => G1261 tq (by
    refine X1257.aaload hx (j := (0 : Int32)) (v := (.ref dp)) Ar1262.1 (State.isArrayOf_alike hZ.alike Ar1262.2.1) rfl Ar1262.2.2 hi1263 (H1262.at hi1263 rfl) (g := (mkF m 21 #[.val (.ref a), .val .null, .val (.ref vb1257), .val (.int 2), .val (.int 0), .unset] [(.int 0), (.ref vb1257)])) rfl rfl (hb hby d16_21) _ ?_
    show Steps p.tables e below (T1257.setTop (mkF m 22 #[.val (.ref a), .val .null, .val (.ref vb1257), .val (.int 2), .val (.int 0), .unset] [(.ref dp)])) _
    refine XS.astore X1257.here hx rfl (hb hby d16_22) rfl rfl (l' := #[.val (.ref a), .val .null, .val (.ref vb1257), .val (.int 2), .val (.int 0), .val (.ref dp)]) rfl ?_
    refine XS.aload X1257.here hx rfl (hb hby d16_24) rfl rfl ?_
    exact kq)
  have f1265 := (F1.keep K1257 nin0)
  obtain ⟨T1266, X1266, e1266, st1266⟩ := getF X1257 hx hZ hown (host := "") (Or.inl (wd hw 94 rfl)) Via.refl rfl f1265 (g := (mkF m 26 #[.val (.ref a), .val .null, .val (.ref vb1257), .val (.int 2), .val (.int 0), .val (.ref dp)] [(.ref dp)])) rfl rfl (hb hby d16_26)
  have G1267 : Go p e below A0 (T1266.setTop (mkF m 29 #[.val (.ref a), .val .null, .val (.ref vb1257), .val (.int 2), .val (.int 0), .val (.ref dp)] [(.ref dw)])) := fun tq kq => G1264 tq (st1266 _ kq)
  have G1268 : Go p e below A0 (T1266.setTop (mkF m 30 #[.val (.ref a), .val .null, .val (.ref vb1257), .val (.int 2), .val (.int 0), .val (.ref dp)] [(.ref a), (.ref dw)])) := fun tq kq => G1267 tq (by
    refine XS.aloadN X1266.here hx rfl (hb hby d16_29) rfl rfl ?_
    exact kq)
  have f1270 := (E1.keep K1257)
  have f1271 := (Fv1.keep K1257 nin0)
  have f1272 := (Fc1.keep K1257 nin0)
  have f1273 := (A1.keep K1257 nin0)
  have f1274 := (E.keep K1257)
  have f1275 := (Fv.keep K1257 nin0)
  have f1276 := (Fc.keep K1257 nin0)
  have f1277 := (Ab.keep K1257 nin0)
  have f1278 := (Nat.le_trans Z0 K1257.1)
  have f1279 := (hold.keep K1257 all0)
  obtain ⟨cq1269, kq1269, q1269a, q1269b, q1269c⟩ := isOf hZ e1266 f1270
  obtain ⟨_, _, ⟨T1269, L1269, k1269, n1269⟩, -, X1269, ⟨Lc1269, hQ1269, l1269, y1269, z1269⟩, st1269⟩ := X1266.virtualBack hx (y := (⟨"java/lang/String", "equals", "(Ljava/lang/Object;)Z"⟩ : MethodName)) (z := (⟨"java/lang/String", "equals", "(Ljava/lang/Object;)Z"⟩ : MethodName)) hown (mvT hZ (wd hw 96 rfl)) (mvT hZ (wd hw 97 rfl)) (notFace_of_selects (args := #[]) (mvT hZ (wd hw 99 rfl))) (mvT hZ (wd hw 99 rfl)) (mvT hZ (wd hw 98 rfl)) (by decide) (backOf (W := 0) (rmEqX l Z a0 hw [] dw a db b kd kb _ _ (9 : Int32) n_ cs fo T1257.heap n0 f1278 f1270 f1271 f1272 f1274 f1275 f1276 f1273 f1277 h9 (hold.ne hWd.1.lt ga) hCS hcs hSF hfo f1279) hZ (wd hw 100 rfl) (wd hw 2 rfl) (by decide) (by decide)) q1269a q1269c (g := (mkF m 30 #[.val (.ref a), .val .null, .val (.ref vb1257), .val (.int 2), .val (.int 0), .val (.ref dp)] [(.ref a), (.ref dw)])) rfl (by rw [hml]; rfl) (Steps.refl _) (argsL := [(.ref a)]) (rest := []) (lenOf pd_18 rfl) rfl (by show 2 * 0 + _ ≤ _; exact Nat.le_of_eq rfl) (hb hby d16_30) (fun _ _ => ⟨rfl, e1266, (by decide : 1 + 0 ≤ _), (by decide : 2 + 0 ≤ _)⟩)
  dsimp only [Pt.U, Pt.locs, Pt.cells, Pt.slots] at X1269 l1269 y1269 z1269 st1269 hQ1269
  obtain rfl : k1269 = 1 := y1269
  obtain rfl : n1269 = 2 := z1269
  obtain ⟨rfl, N1269q, e1269⟩ := hQ1269
  have N1269 : Fr n0 L1269 := by rw [l1269]; exact Fr.app N1257 N1269q
  have G1280 : Go p e below A0 (T1269.setTop (mkF m 33 #[.val (.ref a), .val .null, .val (.ref vb1257), .val (.int 2), .val (.int 0), .val (.ref dp)] [(.int 0)])) := fun tq kq => G1268 tq (st1269.trans kq)
  have G1281 : Go p e below A0 (T1269.setTop (mkF m 21 #[.val (.ref a), .val .null, .val (.ref vb1257), .val (.int 2), .val (.int 1), .val (.ref dp)] [(.int 1), (.ref vb1257)])) := fun tq kq => G1280 tq (by
    refine XS.ifYes X1269.here hx rfl (pc0 := 33) (pc' := 39) rfl (hb hby d16_33) rfl (by decide) (by decide) (by decide) ?_
    refine XS.iinc X1269.here hx rfl (hb hby d16_39) rfl (l' := #[.val (.ref a), .val .null, .val (.ref vb1257), .val (.int 2), .val (.int ((0 : Int32) + (1 : Int32))), .val (.ref dp)]) rfl ?_
    show Steps p.tables e below (T1269.setTop (mkF m 42 #[.val (.ref a), .val .null, .val (.ref vb1257), .val (.int 2), .val (.int ((0 : Int32) + (1 : Int32))), .val (.ref dp)] [])) _
    rw [show ((0 : Int32) + (1 : Int32)) = (1 : Int32) from (by decide : ((0 : Int32) + (1 : Int32)) = (1 : Int32))]
    show Steps p.tables e below (T1269.setTop (mkF m 42 #[.val (.ref a), .val .null, .val (.ref vb1257), .val (.int 2), .val (.int 1), .val (.ref dp)] [])) _
    refine XS.goto X1269.here hx rfl (pc0 := 42) (pc' := 12) rfl (hb hby d16_42) (by decide) (by decide) ?_
    refine XS.iload X1269.here hx rfl (hb hby d16_12) rfl ?_
    refine XS.iloadN X1269.here hx rfl (hb hby d16_14) rfl ?_
    refine XS.icmpNo X1269.here hx rfl (hb hby d16_15) rfl (by decide) ?_
    refine XS.aloadN X1269.here hx rfl (hb hby d16_18) rfl rfl ?_
    refine XS.iload X1269.here hx rfl (hb hby d16_19) rfl ?_
    exact kq)
  obtain ⟨cl1282, Ar1282, q1282, S1282, M1282, H1282, Gf1282⟩ := id Av1257
  have hi1283 : ¬ ((1 : Int32) < 0 ∨ cl1282.slots.size ≤ ((1 : Int32)).toNatClampNeg) := (inb_of S1282 ⟨by decide, by decide⟩)
  have G1284 : Go p e below A0 (T1269.setTop (mkF m 26 #[.val (.ref a), .val .null, .val (.ref vb1257), .val (.int 2), .val (.int 1), .val (.ref ip)] [(.ref ip)])) := fun tq kq => G1281 tq (by
    refine X1269.aaload hx (j := (1 : Int32)) (v := (.ref ip)) (by rw [e1269]; exact Ar1282.1) (State.isArrayOf_alike hZ.alike Ar1282.2.1) rfl Ar1282.2.2 hi1283 (H1282.at hi1283 rfl) (g := (mkF m 21 #[.val (.ref a), .val .null, .val (.ref vb1257), .val (.int 2), .val (.int 1), .val (.ref dp)] [(.int 1), (.ref vb1257)])) rfl rfl (hb hby d16_21) _ ?_
    show Steps p.tables e below (T1269.setTop (mkF m 22 #[.val (.ref a), .val .null, .val (.ref vb1257), .val (.int 2), .val (.int 1), .val (.ref dp)] [(.ref ip)])) _
    refine XS.astore X1269.here hx rfl (hb hby d16_22) rfl rfl (l' := #[.val (.ref a), .val .null, .val (.ref vb1257), .val (.int 2), .val (.int 1), .val (.ref ip)]) rfl ?_
    refine XS.aload X1269.here hx rfl (hb hby d16_24) rfl rfl ?_
    exact kq)
  have f1285 := (F2.keep K1257 nin0)
  obtain ⟨T1286, X1286, e1286, st1286⟩ := getF X1269 hx hZ hown (host := "") (Or.inl (wd hw 94 rfl)) Via.refl e1269 f1285 (g := (mkF m 26 #[.val (.ref a), .val .null, .val (.ref vb1257), .val (.int 2), .val (.int 1), .val (.ref ip)] [(.ref ip)])) rfl rfl (hb hby d16_26)
  have G1287 : Go p e below A0 (T1286.setTop (mkF m 29 #[.val (.ref a), .val .null, .val (.ref vb1257), .val (.int 2), .val (.int 1), .val (.ref ip)] [(.ref iw)])) := fun tq kq => G1284 tq (st1286 _ kq)
  have G1288 : Go p e below A0 (T1286.setTop (mkF m 30 #[.val (.ref a), .val .null, .val (.ref vb1257), .val (.int 2), .val (.int 1), .val (.ref ip)] [(.ref a), (.ref iw)])) := fun tq kq => G1287 tq (by
    refine XS.aloadN X1286.here hx rfl (hb hby d16_29) rfl rfl ?_
    exact kq)
  have f1290 := (E2.keep K1257)
  have f1291 := (Fv2.keep K1257 nin0)
  have f1292 := (Fc2.keep K1257 nin0)
  have f1293 := (A2.keep K1257 nin0)
  obtain ⟨cq1289, kq1289, q1289a, q1289b, q1289c⟩ := isOf hZ e1286 f1290
  obtain ⟨_, _, ⟨T1289, L1289, k1289, n1289⟩, -, X1289, ⟨Lc1289, hQ1289, l1289, y1289, z1289⟩, st1289⟩ := X1286.virtualBack hx (y := (⟨"java/lang/String", "equals", "(Ljava/lang/Object;)Z"⟩ : MethodName)) (z := (⟨"java/lang/String", "equals", "(Ljava/lang/Object;)Z"⟩ : MethodName)) hown (mvT hZ (wd hw 96 rfl)) (mvT hZ (wd hw 97 rfl)) (notFace_of_selects (args := #[]) (mvT hZ (wd hw 99 rfl))) (mvT hZ (wd hw 99 rfl)) (mvT hZ (wd hw 98 rfl)) (by decide) (backOf (W := 0) (rmEqX l Z a0 hw [] iw a ib b ki kb _ _ (11 : Int32) n_ cs fo T1257.heap n0 f1278 f1290 f1291 f1292 f1274 f1275 f1276 f1293 f1277 h11 (hold.ne hWi.1.lt ga) hCS hcs hSF hfo f1279) hZ (wd hw 100 rfl) (wd hw 2 rfl) (by decide) (by decide)) q1289a q1289c (g := (mkF m 30 #[.val (.ref a), .val .null, .val (.ref vb1257), .val (.int 2), .val (.int 1), .val (.ref ip)] [(.ref a), (.ref iw)])) rfl (by rw [hml]; rfl) (Steps.refl _) (argsL := [(.ref a)]) (rest := []) (lenOf pd_18 rfl) rfl (by show 2 * 0 + _ ≤ _; exact Nat.le_of_eq rfl) (hb hby d16_30) (fun _ _ => ⟨rfl, e1286, (by decide : 1 + 0 ≤ _), (by decide : 2 + 0 ≤ _)⟩)
  dsimp only [Pt.U, Pt.locs, Pt.cells, Pt.slots] at X1289 l1289 y1289 z1289 st1289 hQ1289
  obtain rfl : k1289 = 1 := y1289
  obtain rfl : n1289 = 2 := z1289
  obtain ⟨rfl, N1289q, e1289⟩ := hQ1289
  have N1289 : Fr n0 L1289 := by rw [l1289]; exact Fr.app N1269 N1289q
  have G1294 : Go p e below A0 (T1289.setTop (mkF m 33 #[.val (.ref a), .val .null, .val (.ref vb1257), .val (.int 2), .val (.int 1), .val (.ref ip)] [(.int 0)])) := fun tq kq => G1288 tq (st1289.trans kq)
  have G1295 : Go p e below A0 (T1289.setTop (mkF m 46 #[.val (.ref a), .val .null, .val (.ref vb1257), .val (.int 2), .val (.int 2), .val (.ref ip)] [.null])) := fun tq kq => G1294 tq (by
    refine XS.ifYes X1289.here hx rfl (pc0 := 33) (pc' := 39) rfl (hb hby d16_33) rfl (by decide) (by decide) (by decide) ?_
    refine XS.iinc X1289.here hx rfl (hb hby d16_39) rfl (l' := #[.val (.ref a), .val .null, .val (.ref vb1257), .val (.int 2), .val (.int ((1 : Int32) + (1 : Int32))), .val (.ref ip)]) rfl ?_
    show Steps p.tables e below (T1289.setTop (mkF m 42 #[.val (.ref a), .val .null, .val (.ref vb1257), .val (.int 2), .val (.int ((1 : Int32) + (1 : Int32))), .val (.ref ip)] [])) _
    rw [show ((1 : Int32) + (1 : Int32)) = (2 : Int32) from (by decide : ((1 : Int32) + (1 : Int32)) = (2 : Int32))]
    show Steps p.tables e below (T1289.setTop (mkF m 42 #[.val (.ref a), .val .null, .val (.ref vb1257), .val (.int 2), .val (.int 2), .val (.ref ip)] [])) _
    refine XS.goto X1289.here hx rfl (pc0 := 42) (pc' := 12) rfl (hb hby d16_42) (by decide) (by decide) ?_
    refine XS.iload X1289.here hx rfl (hb hby d16_12) rfl ?_
    refine XS.iloadN X1289.here hx rfl (hb hby d16_14) rfl ?_
    refine XS.icmpYes X1289.here hx rfl (pc0 := 15) (pc' := 45) rfl (hb hby d16_15) rfl (by decide) (by decide) (by decide) ?_
    refine XS.aloadN X1289.here hx rfl (hb hby d16_45) rfl rfl ?_
    exact kq)
  obtain ⟨fs, hr, hrun, hended, hW, hsame⟩ := X1289.leave (v := some .null) (fun h => by rw [Bd.returns] at h; cases h)
  refine ⟨_, _, (by rw [← hA0]; exact G1295 _ (retOut X1289 hx (t := (.object "com/example/role_delegation/roledelegation/RevocationKind")) Bd.returns rfl (Or.inr (Or.inr (Or.inr (Or.inr ⟨rfl, rfl, rfl⟩)))) (hb hby d16_46) hr)), hrun, hended, _, _, rfl, ?_, ⟨_, rfl⟩, hW, hsame.mono (by decide) (by decide)⟩
  show Qnm .null h0 n0 _ T1289.heap _
  rw [e1289]
  exact ⟨rfl, N1289, ((Keep.refl h0 []).trans K1257 all0)⟩
set_option maxRecDepth 65536 in
set_option maxHeartbeats 40000000 in
theorem rmN9T (l : Launch) (Z : State) (a0 : Array Value) (hw : ∀ d ∈ tables_1, d.before a0 Z = true) (ws : List Jvm.Cond) (va : Addr) (kv : ClassId) (dp ip : Addr) (dw db iw ib : Addr) (kd ki : ClassId) (a b : Addr) (kb : ClassId) (cf : Nat → Int32) (cs : Int32) (fo : Value) (h0 : Heap) (n0 : Nat) (Z0 : n0 ≤ h0.size) (hVS : Sta Z Z.heap "com/example/role_delegation/roledelegation/RevocationKind" "$VALUES" "[Lcom/example/role_delegation/roledelegation/RevocationKind;" (.ref va)) (hEV : Exa Z Z.heap va "[Lcom/example/role_delegation/roledelegation/RevocationKind;") (hAV : Arv Z Z.heap va kv (.object "com/example/role_delegation/roledelegation/RevocationKind") (2 : Int32) [.ref dp, .ref ip] .null) (hWd : Wd Z Z.heap dp dw db kd (9 : Int32) t_D) (hWi : Wd Z Z.heap ip iw ib ki (11 : Int32) t_I) (E : Exa Z h0 a "java/lang/String") (Fv : Fld Z h0 a "java/lang/String" "value" "[B" (.ref b)) (Fc : Fld Z h0 a "java/lang/String" "coder" "B" (.int 0)) (ga : n0 ≤ a) (Ab : Af Z h0 b kb .byte (9 : Int32) (fun j => .int (own_by (cf j)))) (hPq : (own_eqf 9 (own_t t_D) cf)) (hCS : Sta Z Z.heap "java/lang/String" "COMPACT_STRINGS" "Z" (.int cs)) (hcs : ¬ cs = (0 : Int32)) (hSF : Sta Z Z.heap "jdk/internal/util/Preconditions" "SIOOBE_FORMATTER" "Ljava/util/function/BiFunction;" fo) (hfo : fo.isRef = true) (hold : Old Z n0 h0) :
    MetFree l (⟨"com/example/role_delegation/roledelegation/RevocationKind", "named", "(Ljava/lang/String;)Lcom/example/role_delegation/roledelegation/RevocationKind;"⟩ : MethodName) (head1 (Jvm.Cond.code (⟨"com/example/role_delegation/roledelegation/RevocationKind", "named", "(Ljava/lang/String;)Lcom/example/role_delegation/roledelegation/RevocationKind;"⟩ : MethodName) prog_51_method_5_code 6 (some (.object "com/example/role_delegation/roledelegation/RevocationKind")) :: ws) (Rm 2 1 2 28)) (fun aa UU => aa = #[(.ref a)] ∧ Z.Warmed39 UU.vm ∧ UU.heap = h0) (fun _ _ _ _ _ => True) (fun _ UU oo U' => ∃ v L, oo = .returned v ∧ Qnm (.ref dp) h0 n0 v U'.heap L ∧ FrameEnd UU oo U' L (Rm 2 1 2 28).cells (Rm 2 1 2 28).slots) := by
  refine MetFree.of_bodySF (plainFor_of_name pn_5) hisR ?_
  intro p e s m args below meth c s₁ Bd hml0 hP hK
  obtain ⟨rfl, hZ, hh⟩ := hP
  have hx := Bd.exec
  have hby := Bd.bytes
  have hml : c.maxLocals = 6 := hml0
  have hown : s.vm.findClass "com/example/role_delegation/roledelegation/RevocationKind" = some m.cls := findClass_of_methodNamed Bd.named
  have hnm := (name_of_methodNamed Bd.named Bd.method).1
  have X0 : Stand p l e (Rm 2 1 2 28) s m #[(.ref a)] below meth c s₁ [] 0 0 := Stand.of_body Bd
  have e0 : s₁.heap = h0 := by rw [← hh, Bd.state]; rfl
  have N0 := Fr.nil n0
  obtain ⟨A0, hA0⟩ : ∃ A, A = s₁.setTop (entryFrame m #[(.ref a)] 6) := ⟨_, rfl⟩
  have G0 : Go p e below A0 (s₁.setTop (mkF m 0 #[.val (.ref a), .unset, .unset, .unset, .unset, .unset] [])) := fun tq kq => by rw [hA0]; exact castTop (ef_rmN9T m a) kq
  obtain ⟨E1, F1, Fv1, Fc1, A1⟩ := hWd.ext hold.2
  obtain ⟨E2, F2, Fv2, Fc2, A2⟩ := hWi.ext hold.2
  have G1296 : Go p e below A0 (s₁.setTop (mkF m 2 #[.val (.ref a), .val .null, .unset, .unset, .unset, .unset] [])) := fun tq kq => G0 tq (by
    refine XS.aconstNull X0.here hx rfl (hb hby d16_0) ?_
    refine XS.astoreN X0.here hx rfl (hb hby d16_1) rfl rfl (l' := #[.val (.ref a), .val .null, .unset, .unset, .unset, .unset]) rfl ?_
    exact kq)
  obtain ⟨_, _, ⟨T1297, L1297, k1297, n1297⟩, -, X1297, ⟨Lc1297, hQ1297, l1297, y1297, z1297⟩, st1297⟩ := Jvm.LawKit.callS X0 hx (y := (⟨"com/example/role_delegation/roledelegation/RevocationKind", "values", "()[Lcom/example/role_delegation/roledelegation/RevocationKind;"⟩ : MethodName)) hown (mvT hZ (wd hw 77 rfl)) (mvT hZ (wd hw 78 rfl)) (mvT hZ (wd hw 75 rfl)) (mvT hZ (wd hw 79 rfl)) (by decide) (backOf (W := 0) (rmVL l Z a0 hw [] va kv dp ip h0 n0 Z0 hVS hEV hAV hold) hZ (wd hw 79 rfl) (wd hw 75 rfl) (by decide) (by decide)) (g := (mkF m 2 #[.val (.ref a), .val .null, .unset, .unset, .unset, .unset] [])) rfl (by rw [hml]; rfl) (argsL := []) (rest := []) (lenOf pd_17 rfl) rfl (by show 2 * 0 + _ ≤ _; exact Nat.le_of_eq rfl) (hb hby d16_2) (fun _ _ => ⟨rfl, e0, (by decide : 0 + 1 ≤ _), (by decide : 0 + 2 ≤ _)⟩)
  dsimp only [Pt.U, Pt.locs, Pt.cells, Pt.slots] at X1297 l1297 y1297 z1297 st1297 hQ1297
  obtain rfl : k1297 = 1 := y1297
  obtain rfl : n1297 = 2 := z1297
  obtain ⟨vb1297, vk1297, rfl, N1297q, K1297, Av1297⟩ := hQ1297
  have N1297 : Fr n0 L1297 := by rw [l1297]; exact Fr.app N0 N1297q
  have G1298 : Go p e below A0 (T1297.setTop (mkF m 5 #[.val (.ref a), .val .null, .unset, .unset, .unset, .unset] [(.ref vb1297)])) := fun tq kq => G1296 tq (st1297 _ kq)
  have G1299 : Go p e below A0 (T1297.setTop (mkF m 7 #[.val (.ref a), .val .null, .val (.ref vb1297), .unset, .unset, .unset] [(.ref vb1297)])) := fun tq kq => G1298 tq (by
    refine XS.astoreN X1297.here hx rfl (hb hby d16_5) rfl rfl (l' := #[.val (.ref a), .val .null, .val (.ref vb1297), .unset, .unset, .unset]) rfl ?_
    refine XS.aloadN X1297.here hx rfl (hb hby d16_6) rfl rfl ?_
    exact kq)
  obtain ⟨cl1300, Ar1300, q1300, S1300, M1300, H1300, Gf1300⟩ := id Av1297
  have G1301 : Go p e below A0 (T1297.setTop (mkF m 21 #[.val (.ref a), .val .null, .val (.ref vb1297), .val (.int 2), .val (.int 0), .unset] [(.int 0), (.ref vb1297)])) := fun tq kq => G1299 tq (by
    refine X1297.arraylength hx Ar1300.1 (State.isArrayOf_alike hZ.alike Ar1300.2.1) (g := (mkF m 7 #[.val (.ref a), .val .null, .val (.ref vb1297), .unset, .unset, .unset] [(.ref vb1297)])) rfl rfl (hb hby d16_7) _ ?_
    rw [len_of S1300 M1300]
    show Steps p.tables e below (T1297.setTop (mkF m 8 #[.val (.ref a), .val .null, .val (.ref vb1297), .unset, .unset, .unset] [(.int 2)])) _
    refine XS.istoreN X1297.here hx rfl (hb hby d16_8) rfl (l' := #[.val (.ref a), .val .null, .val (.ref vb1297), .val (.int 2), .unset, .unset]) rfl ?_
    refine XS.iconst X1297.here hx rfl (hb hby d16_9) ?_
    refine XS.istore X1297.here hx rfl (hb hby d16_10) rfl (l' := #[.val (.ref a), .val .null, .val (.ref vb1297), .val (.int 2), .val (.int 0), .unset]) rfl ?_
    refine XS.iload X1297.here hx rfl (hb hby d16_12) rfl ?_
    refine XS.iloadN X1297.here hx rfl (hb hby d16_14) rfl ?_
    refine XS.icmpNo X1297.here hx rfl (hb hby d16_15) rfl (by decide) ?_
    refine XS.aloadN X1297.here hx rfl (hb hby d16_18) rfl rfl ?_
    refine XS.iload X1297.here hx rfl (hb hby d16_19) rfl ?_
    exact kq)
  obtain ⟨cl1302, Ar1302, q1302, S1302, M1302, H1302, Gf1302⟩ := id Av1297
  have hi1303 : ¬ ((0 : Int32) < 0 ∨ cl1302.slots.size ≤ ((0 : Int32)).toNatClampNeg) := (inb_of S1302 ⟨by decide, by decide⟩)
  have G1304 : Go p e below A0 (T1297.setTop (mkF m 26 #[.val (.ref a), .val .null, .val (.ref vb1297), .val (.int 2), .val (.int 0), .val (.ref dp)] [(.ref dp)])) := fun tq kq => G1301 tq (by
    refine X1297.aaload hx (j := (0 : Int32)) (v := (.ref dp)) Ar1302.1 (State.isArrayOf_alike hZ.alike Ar1302.2.1) rfl Ar1302.2.2 hi1303 (H1302.at hi1303 rfl) (g := (mkF m 21 #[.val (.ref a), .val .null, .val (.ref vb1297), .val (.int 2), .val (.int 0), .unset] [(.int 0), (.ref vb1297)])) rfl rfl (hb hby d16_21) _ ?_
    show Steps p.tables e below (T1297.setTop (mkF m 22 #[.val (.ref a), .val .null, .val (.ref vb1297), .val (.int 2), .val (.int 0), .unset] [(.ref dp)])) _
    refine XS.astore X1297.here hx rfl (hb hby d16_22) rfl rfl (l' := #[.val (.ref a), .val .null, .val (.ref vb1297), .val (.int 2), .val (.int 0), .val (.ref dp)]) rfl ?_
    refine XS.aload X1297.here hx rfl (hb hby d16_24) rfl rfl ?_
    exact kq)
  have f1305 := (F1.keep K1297 nin0)
  obtain ⟨T1306, X1306, e1306, st1306⟩ := getF X1297 hx hZ hown (host := "") (Or.inl (wd hw 94 rfl)) Via.refl rfl f1305 (g := (mkF m 26 #[.val (.ref a), .val .null, .val (.ref vb1297), .val (.int 2), .val (.int 0), .val (.ref dp)] [(.ref dp)])) rfl rfl (hb hby d16_26)
  have G1307 : Go p e below A0 (T1306.setTop (mkF m 29 #[.val (.ref a), .val .null, .val (.ref vb1297), .val (.int 2), .val (.int 0), .val (.ref dp)] [(.ref dw)])) := fun tq kq => G1304 tq (st1306 _ kq)
  have G1308 : Go p e below A0 (T1306.setTop (mkF m 30 #[.val (.ref a), .val .null, .val (.ref vb1297), .val (.int 2), .val (.int 0), .val (.ref dp)] [(.ref a), (.ref dw)])) := fun tq kq => G1307 tq (by
    refine XS.aloadN X1306.here hx rfl (hb hby d16_29) rfl rfl ?_
    exact kq)
  have f1310 := (E1.keep K1297)
  have f1311 := (Fv1.keep K1297 nin0)
  have f1312 := (Fc1.keep K1297 nin0)
  have f1313 := (A1.keep K1297 nin0)
  have f1314 := (E.keep K1297)
  have f1315 := (Fv.keep K1297 nin0)
  have f1316 := (Fc.keep K1297 nin0)
  have f1317 := (Ab.keep K1297 nin0)
  have f1318 := (Nat.le_trans Z0 K1297.1)
  have f1319 := (hold.keep K1297 all0)
  obtain ⟨cq1309, kq1309, q1309a, q1309b, q1309c⟩ := isOf hZ e1306 f1310
  obtain ⟨_, _, ⟨T1309, L1309, k1309, n1309⟩, -, X1309, ⟨Lc1309, hQ1309, l1309, y1309, z1309⟩, st1309⟩ := X1306.virtualBack hx (y := (⟨"java/lang/String", "equals", "(Ljava/lang/Object;)Z"⟩ : MethodName)) (z := (⟨"java/lang/String", "equals", "(Ljava/lang/Object;)Z"⟩ : MethodName)) hown (mvT hZ (wd hw 96 rfl)) (mvT hZ (wd hw 97 rfl)) (notFace_of_selects (args := #[]) (mvT hZ (wd hw 99 rfl))) (mvT hZ (wd hw 99 rfl)) (mvT hZ (wd hw 98 rfl)) (by decide) (backOf (W := 0) (rmEq9 l Z a0 hw [] dw a db b kd kb (own_t t_D) cf cs fo T1297.heap n0 f1318 f1310 f1311 f1312 f1314 f1315 f1316 f1313 f1317 (hold.ne hWd.1.lt ga) hCS hcs hSF hfo f1319) hZ (wd hw 100 rfl) (wd hw 2 rfl) (by decide) (by decide)) q1309a q1309c (g := (mkF m 30 #[.val (.ref a), .val .null, .val (.ref vb1297), .val (.int 2), .val (.int 0), .val (.ref dp)] [(.ref a), (.ref dw)])) rfl (by rw [hml]; rfl) (Steps.refl _) (argsL := [(.ref a)]) (rest := []) (lenOf pd_18 rfl) rfl (by show 2 * 0 + _ ≤ _; exact Nat.le_of_eq rfl) (hb hby d16_30) (fun _ _ => ⟨rfl, e1306, (by decide : 1 + 0 ≤ _), (by decide : 2 + 0 ≤ _)⟩)
  dsimp only [Pt.U, Pt.locs, Pt.cells, Pt.slots] at X1309 l1309 y1309 z1309 st1309 hQ1309
  obtain rfl : k1309 = 1 := y1309
  obtain rfl : n1309 = 2 := z1309
  obtain ⟨rfl, N1309q, e1309⟩ := hQ1309
  have N1309 : Fr n0 L1309 := by rw [l1309]; exact Fr.app N1297 N1309q
  have G1320 : Go p e below A0 (T1309.setTop (mkF m 33 #[.val (.ref a), .val .null, .val (.ref vb1297), .val (.int 2), .val (.int 0), .val (.ref dp)] [(.int (own_b (own_eqf 9 (own_t t_D) cf)))])) := fun tq kq => G1308 tq (st1309.trans kq)
  have G1321 : Go p e below A0 (T1309.setTop (mkF m 21 #[.val (.ref a), .val (.ref dp), .val (.ref vb1297), .val (.int 2), .val (.int 1), .val (.ref dp)] [(.int 1), (.ref vb1297)])) := fun tq kq => G1320 tq (by
    refine XS.ifNo X1309.here hx rfl (hb hby d16_33) rfl ((if0 _ _).trans (feq (own_b1 hPq)).1) ?_
    refine XS.aload X1309.here hx rfl (hb hby d16_36) rfl rfl ?_
    refine XS.astoreN X1309.here hx rfl (hb hby d16_38) rfl rfl (l' := #[.val (.ref a), .val (.ref dp), .val (.ref vb1297), .val (.int 2), .val (.int 0), .val (.ref dp)]) rfl ?_
    refine XS.iinc X1309.here hx rfl (hb hby d16_39) rfl (l' := #[.val (.ref a), .val (.ref dp), .val (.ref vb1297), .val (.int 2), .val (.int ((0 : Int32) + (1 : Int32))), .val (.ref dp)]) rfl ?_
    show Steps p.tables e below (T1309.setTop (mkF m 42 #[.val (.ref a), .val (.ref dp), .val (.ref vb1297), .val (.int 2), .val (.int ((0 : Int32) + (1 : Int32))), .val (.ref dp)] [])) _
    rw [show ((0 : Int32) + (1 : Int32)) = (1 : Int32) from (by decide : ((0 : Int32) + (1 : Int32)) = (1 : Int32))]
    show Steps p.tables e below (T1309.setTop (mkF m 42 #[.val (.ref a), .val (.ref dp), .val (.ref vb1297), .val (.int 2), .val (.int 1), .val (.ref dp)] [])) _
    refine XS.goto X1309.here hx rfl (pc0 := 42) (pc' := 12) rfl (hb hby d16_42) (by decide) (by decide) ?_
    refine XS.iload X1309.here hx rfl (hb hby d16_12) rfl ?_
    refine XS.iloadN X1309.here hx rfl (hb hby d16_14) rfl ?_
    refine XS.icmpNo X1309.here hx rfl (hb hby d16_15) rfl (by decide) ?_
    refine XS.aloadN X1309.here hx rfl (hb hby d16_18) rfl rfl ?_
    refine XS.iload X1309.here hx rfl (hb hby d16_19) rfl ?_
    exact kq)
  obtain ⟨cl1322, Ar1322, q1322, S1322, M1322, H1322, Gf1322⟩ := id Av1297
  have hi1323 : ¬ ((1 : Int32) < 0 ∨ cl1322.slots.size ≤ ((1 : Int32)).toNatClampNeg) := (inb_of S1322 ⟨by decide, by decide⟩)
  have G1324 : Go p e below A0 (T1309.setTop (mkF m 26 #[.val (.ref a), .val (.ref dp), .val (.ref vb1297), .val (.int 2), .val (.int 1), .val (.ref ip)] [(.ref ip)])) := fun tq kq => G1321 tq (by
    refine X1309.aaload hx (j := (1 : Int32)) (v := (.ref ip)) (by rw [e1309]; exact Ar1322.1) (State.isArrayOf_alike hZ.alike Ar1322.2.1) rfl Ar1322.2.2 hi1323 (H1322.at hi1323 rfl) (g := (mkF m 21 #[.val (.ref a), .val (.ref dp), .val (.ref vb1297), .val (.int 2), .val (.int 1), .val (.ref dp)] [(.int 1), (.ref vb1297)])) rfl rfl (hb hby d16_21) _ ?_
    show Steps p.tables e below (T1309.setTop (mkF m 22 #[.val (.ref a), .val (.ref dp), .val (.ref vb1297), .val (.int 2), .val (.int 1), .val (.ref dp)] [(.ref ip)])) _
    refine XS.astore X1309.here hx rfl (hb hby d16_22) rfl rfl (l' := #[.val (.ref a), .val (.ref dp), .val (.ref vb1297), .val (.int 2), .val (.int 1), .val (.ref ip)]) rfl ?_
    refine XS.aload X1309.here hx rfl (hb hby d16_24) rfl rfl ?_
    exact kq)
  have f1325 := (F2.keep K1297 nin0)
  obtain ⟨T1326, X1326, e1326, st1326⟩ := getF X1309 hx hZ hown (host := "") (Or.inl (wd hw 94 rfl)) Via.refl e1309 f1325 (g := (mkF m 26 #[.val (.ref a), .val (.ref dp), .val (.ref vb1297), .val (.int 2), .val (.int 1), .val (.ref ip)] [(.ref ip)])) rfl rfl (hb hby d16_26)
  have G1327 : Go p e below A0 (T1326.setTop (mkF m 29 #[.val (.ref a), .val (.ref dp), .val (.ref vb1297), .val (.int 2), .val (.int 1), .val (.ref ip)] [(.ref iw)])) := fun tq kq => G1324 tq (st1326 _ kq)
  have G1328 : Go p e below A0 (T1326.setTop (mkF m 30 #[.val (.ref a), .val (.ref dp), .val (.ref vb1297), .val (.int 2), .val (.int 1), .val (.ref ip)] [(.ref a), (.ref iw)])) := fun tq kq => G1327 tq (by
    refine XS.aloadN X1326.here hx rfl (hb hby d16_29) rfl rfl ?_
    exact kq)
  have f1330 := (E2.keep K1297)
  have f1331 := (Fv2.keep K1297 nin0)
  have f1332 := (Fc2.keep K1297 nin0)
  have f1333 := (A2.keep K1297 nin0)
  obtain ⟨cq1329, kq1329, q1329a, q1329b, q1329c⟩ := isOf hZ e1326 f1330
  obtain ⟨_, _, ⟨T1329, L1329, k1329, n1329⟩, -, X1329, ⟨Lc1329, hQ1329, l1329, y1329, z1329⟩, st1329⟩ := X1326.virtualBack hx (y := (⟨"java/lang/String", "equals", "(Ljava/lang/Object;)Z"⟩ : MethodName)) (z := (⟨"java/lang/String", "equals", "(Ljava/lang/Object;)Z"⟩ : MethodName)) hown (mvT hZ (wd hw 96 rfl)) (mvT hZ (wd hw 97 rfl)) (notFace_of_selects (args := #[]) (mvT hZ (wd hw 99 rfl))) (mvT hZ (wd hw 99 rfl)) (mvT hZ (wd hw 98 rfl)) (by decide) (backOf (W := 0) (rmEqX l Z a0 hw [] iw a ib b ki kb _ _ (11 : Int32) (9 : Int32) cs fo T1297.heap n0 f1318 f1330 f1331 f1332 f1314 f1315 f1316 f1333 f1317 (by decide) (hold.ne hWi.1.lt ga) hCS hcs hSF hfo f1319) hZ (wd hw 100 rfl) (wd hw 2 rfl) (by decide) (by decide)) q1329a q1329c (g := (mkF m 30 #[.val (.ref a), .val (.ref dp), .val (.ref vb1297), .val (.int 2), .val (.int 1), .val (.ref ip)] [(.ref a), (.ref iw)])) rfl (by rw [hml]; rfl) (Steps.refl _) (argsL := [(.ref a)]) (rest := []) (lenOf pd_18 rfl) rfl (by show 2 * 0 + _ ≤ _; exact Nat.le_of_eq rfl) (hb hby d16_30) (fun _ _ => ⟨rfl, e1326, (by decide : 1 + 0 ≤ _), (by decide : 2 + 0 ≤ _)⟩)
  dsimp only [Pt.U, Pt.locs, Pt.cells, Pt.slots] at X1329 l1329 y1329 z1329 st1329 hQ1329
  obtain rfl : k1329 = 1 := y1329
  obtain rfl : n1329 = 2 := z1329
  obtain ⟨rfl, N1329q, e1329⟩ := hQ1329
  have N1329 : Fr n0 L1329 := by rw [l1329]; exact Fr.app N1309 N1329q
  have G1334 : Go p e below A0 (T1329.setTop (mkF m 33 #[.val (.ref a), .val (.ref dp), .val (.ref vb1297), .val (.int 2), .val (.int 1), .val (.ref ip)] [(.int 0)])) := fun tq kq => G1328 tq (st1329.trans kq)
  have G1335 : Go p e below A0 (T1329.setTop (mkF m 46 #[.val (.ref a), .val (.ref dp), .val (.ref vb1297), .val (.int 2), .val (.int 2), .val (.ref ip)] [(.ref dp)])) := fun tq kq => G1334 tq (by
    refine XS.ifYes X1329.here hx rfl (pc0 := 33) (pc' := 39) rfl (hb hby d16_33) rfl (by decide) (by decide) (by decide) ?_
    refine XS.iinc X1329.here hx rfl (hb hby d16_39) rfl (l' := #[.val (.ref a), .val (.ref dp), .val (.ref vb1297), .val (.int 2), .val (.int ((1 : Int32) + (1 : Int32))), .val (.ref ip)]) rfl ?_
    show Steps p.tables e below (T1329.setTop (mkF m 42 #[.val (.ref a), .val (.ref dp), .val (.ref vb1297), .val (.int 2), .val (.int ((1 : Int32) + (1 : Int32))), .val (.ref ip)] [])) _
    rw [show ((1 : Int32) + (1 : Int32)) = (2 : Int32) from (by decide : ((1 : Int32) + (1 : Int32)) = (2 : Int32))]
    show Steps p.tables e below (T1329.setTop (mkF m 42 #[.val (.ref a), .val (.ref dp), .val (.ref vb1297), .val (.int 2), .val (.int 2), .val (.ref ip)] [])) _
    refine XS.goto X1329.here hx rfl (pc0 := 42) (pc' := 12) rfl (hb hby d16_42) (by decide) (by decide) ?_
    refine XS.iload X1329.here hx rfl (hb hby d16_12) rfl ?_
    refine XS.iloadN X1329.here hx rfl (hb hby d16_14) rfl ?_
    refine XS.icmpYes X1329.here hx rfl (pc0 := 15) (pc' := 45) rfl (hb hby d16_15) rfl (by decide) (by decide) (by decide) ?_
    refine XS.aloadN X1329.here hx rfl (hb hby d16_45) rfl rfl ?_
    exact kq)
  obtain ⟨fs, hr, hrun, hended, hW, hsame⟩ := X1329.leave (v := some (.ref dp)) (fun h => by rw [Bd.returns] at h; cases h)
  refine ⟨_, _, (by rw [← hA0]; exact G1335 _ (retOut X1329 hx (t := (.object "com/example/role_delegation/roledelegation/RevocationKind")) Bd.returns rfl (Or.inr (Or.inr (Or.inr (Or.inr ⟨rfl, rfl, rfl⟩)))) (hb hby d16_46) hr)), hrun, hended, _, _, rfl, ?_, ⟨_, rfl⟩, hW, hsame.mono (by decide) (by decide)⟩
  show Qnm (.ref dp) h0 n0 _ T1329.heap _
  rw [e1329]
  exact ⟨rfl, N1329, ((Keep.refl h0 []).trans K1297 all0)⟩
set_option maxRecDepth 65536 in
set_option maxHeartbeats 40000000 in
theorem rmN9F (l : Launch) (Z : State) (a0 : Array Value) (hw : ∀ d ∈ tables_1, d.before a0 Z = true) (ws : List Jvm.Cond) (va : Addr) (kv : ClassId) (dp ip : Addr) (dw db iw ib : Addr) (kd ki : ClassId) (a b : Addr) (kb : ClassId) (cf : Nat → Int32) (cs : Int32) (fo : Value) (h0 : Heap) (n0 : Nat) (Z0 : n0 ≤ h0.size) (hVS : Sta Z Z.heap "com/example/role_delegation/roledelegation/RevocationKind" "$VALUES" "[Lcom/example/role_delegation/roledelegation/RevocationKind;" (.ref va)) (hEV : Exa Z Z.heap va "[Lcom/example/role_delegation/roledelegation/RevocationKind;") (hAV : Arv Z Z.heap va kv (.object "com/example/role_delegation/roledelegation/RevocationKind") (2 : Int32) [.ref dp, .ref ip] .null) (hWd : Wd Z Z.heap dp dw db kd (9 : Int32) t_D) (hWi : Wd Z Z.heap ip iw ib ki (11 : Int32) t_I) (E : Exa Z h0 a "java/lang/String") (Fv : Fld Z h0 a "java/lang/String" "value" "[B" (.ref b)) (Fc : Fld Z h0 a "java/lang/String" "coder" "B" (.int 0)) (ga : n0 ≤ a) (Ab : Af Z h0 b kb .byte (9 : Int32) (fun j => .int (own_by (cf j)))) (hPq : ¬ (own_eqf 9 (own_t t_D) cf)) (hCS : Sta Z Z.heap "java/lang/String" "COMPACT_STRINGS" "Z" (.int cs)) (hcs : ¬ cs = (0 : Int32)) (hSF : Sta Z Z.heap "jdk/internal/util/Preconditions" "SIOOBE_FORMATTER" "Ljava/util/function/BiFunction;" fo) (hfo : fo.isRef = true) (hold : Old Z n0 h0) :
    MetFree l (⟨"com/example/role_delegation/roledelegation/RevocationKind", "named", "(Ljava/lang/String;)Lcom/example/role_delegation/roledelegation/RevocationKind;"⟩ : MethodName) (head1 (Jvm.Cond.code (⟨"com/example/role_delegation/roledelegation/RevocationKind", "named", "(Ljava/lang/String;)Lcom/example/role_delegation/roledelegation/RevocationKind;"⟩ : MethodName) prog_51_method_5_code 6 (some (.object "com/example/role_delegation/roledelegation/RevocationKind")) :: ws) (Rm 2 1 2 28)) (fun aa UU => aa = #[(.ref a)] ∧ Z.Warmed39 UU.vm ∧ UU.heap = h0) (fun _ _ _ _ _ => True) (fun _ UU oo U' => ∃ v L, oo = .returned v ∧ Qnm .null h0 n0 v U'.heap L ∧ FrameEnd UU oo U' L (Rm 2 1 2 28).cells (Rm 2 1 2 28).slots) := by
  refine MetFree.of_bodySF (plainFor_of_name pn_5) hisR ?_
  intro p e s m args below meth c s₁ Bd hml0 hP hK
  obtain ⟨rfl, hZ, hh⟩ := hP
  have hx := Bd.exec
  have hby := Bd.bytes
  have hml : c.maxLocals = 6 := hml0
  have hown : s.vm.findClass "com/example/role_delegation/roledelegation/RevocationKind" = some m.cls := findClass_of_methodNamed Bd.named
  have hnm := (name_of_methodNamed Bd.named Bd.method).1
  have X0 : Stand p l e (Rm 2 1 2 28) s m #[(.ref a)] below meth c s₁ [] 0 0 := Stand.of_body Bd
  have e0 : s₁.heap = h0 := by rw [← hh, Bd.state]; rfl
  have N0 := Fr.nil n0
  obtain ⟨A0, hA0⟩ : ∃ A, A = s₁.setTop (entryFrame m #[(.ref a)] 6) := ⟨_, rfl⟩
  have G0 : Go p e below A0 (s₁.setTop (mkF m 0 #[.val (.ref a), .unset, .unset, .unset, .unset, .unset] [])) := fun tq kq => by rw [hA0]; exact castTop (ef_rmN9F m a) kq
  obtain ⟨E1, F1, Fv1, Fc1, A1⟩ := hWd.ext hold.2
  obtain ⟨E2, F2, Fv2, Fc2, A2⟩ := hWi.ext hold.2
  have G1336 : Go p e below A0 (s₁.setTop (mkF m 2 #[.val (.ref a), .val .null, .unset, .unset, .unset, .unset] [])) := fun tq kq => G0 tq (by
    refine XS.aconstNull X0.here hx rfl (hb hby d16_0) ?_
    refine XS.astoreN X0.here hx rfl (hb hby d16_1) rfl rfl (l' := #[.val (.ref a), .val .null, .unset, .unset, .unset, .unset]) rfl ?_
    exact kq)
  obtain ⟨_, _, ⟨T1337, L1337, k1337, n1337⟩, -, X1337, ⟨Lc1337, hQ1337, l1337, y1337, z1337⟩, st1337⟩ := Jvm.LawKit.callS X0 hx (y := (⟨"com/example/role_delegation/roledelegation/RevocationKind", "values", "()[Lcom/example/role_delegation/roledelegation/RevocationKind;"⟩ : MethodName)) hown (mvT hZ (wd hw 77 rfl)) (mvT hZ (wd hw 78 rfl)) (mvT hZ (wd hw 75 rfl)) (mvT hZ (wd hw 79 rfl)) (by decide) (backOf (W := 0) (rmVL l Z a0 hw [] va kv dp ip h0 n0 Z0 hVS hEV hAV hold) hZ (wd hw 79 rfl) (wd hw 75 rfl) (by decide) (by decide)) (g := (mkF m 2 #[.val (.ref a), .val .null, .unset, .unset, .unset, .unset] [])) rfl (by rw [hml]; rfl) (argsL := []) (rest := []) (lenOf pd_17 rfl) rfl (by show 2 * 0 + _ ≤ _; exact Nat.le_of_eq rfl) (hb hby d16_2) (fun _ _ => ⟨rfl, e0, (by decide : 0 + 1 ≤ _), (by decide : 0 + 2 ≤ _)⟩)
  dsimp only [Pt.U, Pt.locs, Pt.cells, Pt.slots] at X1337 l1337 y1337 z1337 st1337 hQ1337
  obtain rfl : k1337 = 1 := y1337
  obtain rfl : n1337 = 2 := z1337
  obtain ⟨vb1337, vk1337, rfl, N1337q, K1337, Av1337⟩ := hQ1337
  have N1337 : Fr n0 L1337 := by rw [l1337]; exact Fr.app N0 N1337q
  have G1338 : Go p e below A0 (T1337.setTop (mkF m 5 #[.val (.ref a), .val .null, .unset, .unset, .unset, .unset] [(.ref vb1337)])) := fun tq kq => G1336 tq (st1337 _ kq)
  have G1339 : Go p e below A0 (T1337.setTop (mkF m 7 #[.val (.ref a), .val .null, .val (.ref vb1337), .unset, .unset, .unset] [(.ref vb1337)])) := fun tq kq => G1338 tq (by
    refine XS.astoreN X1337.here hx rfl (hb hby d16_5) rfl rfl (l' := #[.val (.ref a), .val .null, .val (.ref vb1337), .unset, .unset, .unset]) rfl ?_
    refine XS.aloadN X1337.here hx rfl (hb hby d16_6) rfl rfl ?_
    exact kq)
  obtain ⟨cl1340, Ar1340, q1340, S1340, M1340, H1340, Gf1340⟩ := id Av1337
  have G1341 : Go p e below A0 (T1337.setTop (mkF m 21 #[.val (.ref a), .val .null, .val (.ref vb1337), .val (.int 2), .val (.int 0), .unset] [(.int 0), (.ref vb1337)])) := fun tq kq => G1339 tq (by
    refine X1337.arraylength hx Ar1340.1 (State.isArrayOf_alike hZ.alike Ar1340.2.1) (g := (mkF m 7 #[.val (.ref a), .val .null, .val (.ref vb1337), .unset, .unset, .unset] [(.ref vb1337)])) rfl rfl (hb hby d16_7) _ ?_
    rw [len_of S1340 M1340]
    show Steps p.tables e below (T1337.setTop (mkF m 8 #[.val (.ref a), .val .null, .val (.ref vb1337), .unset, .unset, .unset] [(.int 2)])) _
    refine XS.istoreN X1337.here hx rfl (hb hby d16_8) rfl (l' := #[.val (.ref a), .val .null, .val (.ref vb1337), .val (.int 2), .unset, .unset]) rfl ?_
    refine XS.iconst X1337.here hx rfl (hb hby d16_9) ?_
    refine XS.istore X1337.here hx rfl (hb hby d16_10) rfl (l' := #[.val (.ref a), .val .null, .val (.ref vb1337), .val (.int 2), .val (.int 0), .unset]) rfl ?_
    refine XS.iload X1337.here hx rfl (hb hby d16_12) rfl ?_
    refine XS.iloadN X1337.here hx rfl (hb hby d16_14) rfl ?_
    refine XS.icmpNo X1337.here hx rfl (hb hby d16_15) rfl (by decide) ?_
    refine XS.aloadN X1337.here hx rfl (hb hby d16_18) rfl rfl ?_
    refine XS.iload X1337.here hx rfl (hb hby d16_19) rfl ?_
    exact kq)
  obtain ⟨cl1342, Ar1342, q1342, S1342, M1342, H1342, Gf1342⟩ := id Av1337
  have hi1343 : ¬ ((0 : Int32) < 0 ∨ cl1342.slots.size ≤ ((0 : Int32)).toNatClampNeg) := (inb_of S1342 ⟨by decide, by decide⟩)
  have G1344 : Go p e below A0 (T1337.setTop (mkF m 26 #[.val (.ref a), .val .null, .val (.ref vb1337), .val (.int 2), .val (.int 0), .val (.ref dp)] [(.ref dp)])) := fun tq kq => G1341 tq (by
    refine X1337.aaload hx (j := (0 : Int32)) (v := (.ref dp)) Ar1342.1 (State.isArrayOf_alike hZ.alike Ar1342.2.1) rfl Ar1342.2.2 hi1343 (H1342.at hi1343 rfl) (g := (mkF m 21 #[.val (.ref a), .val .null, .val (.ref vb1337), .val (.int 2), .val (.int 0), .unset] [(.int 0), (.ref vb1337)])) rfl rfl (hb hby d16_21) _ ?_
    show Steps p.tables e below (T1337.setTop (mkF m 22 #[.val (.ref a), .val .null, .val (.ref vb1337), .val (.int 2), .val (.int 0), .unset] [(.ref dp)])) _
    refine XS.astore X1337.here hx rfl (hb hby d16_22) rfl rfl (l' := #[.val (.ref a), .val .null, .val (.ref vb1337), .val (.int 2), .val (.int 0), .val (.ref dp)]) rfl ?_
    refine XS.aload X1337.here hx rfl (hb hby d16_24) rfl rfl ?_
    exact kq)
  have f1345 := (F1.keep K1337 nin0)
  obtain ⟨T1346, X1346, e1346, st1346⟩ := getF X1337 hx hZ hown (host := "") (Or.inl (wd hw 94 rfl)) Via.refl rfl f1345 (g := (mkF m 26 #[.val (.ref a), .val .null, .val (.ref vb1337), .val (.int 2), .val (.int 0), .val (.ref dp)] [(.ref dp)])) rfl rfl (hb hby d16_26)
  have G1347 : Go p e below A0 (T1346.setTop (mkF m 29 #[.val (.ref a), .val .null, .val (.ref vb1337), .val (.int 2), .val (.int 0), .val (.ref dp)] [(.ref dw)])) := fun tq kq => G1344 tq (st1346 _ kq)
  have G1348 : Go p e below A0 (T1346.setTop (mkF m 30 #[.val (.ref a), .val .null, .val (.ref vb1337), .val (.int 2), .val (.int 0), .val (.ref dp)] [(.ref a), (.ref dw)])) := fun tq kq => G1347 tq (by
    refine XS.aloadN X1346.here hx rfl (hb hby d16_29) rfl rfl ?_
    exact kq)
  have f1350 := (E1.keep K1337)
  have f1351 := (Fv1.keep K1337 nin0)
  have f1352 := (Fc1.keep K1337 nin0)
  have f1353 := (A1.keep K1337 nin0)
  have f1354 := (E.keep K1337)
  have f1355 := (Fv.keep K1337 nin0)
  have f1356 := (Fc.keep K1337 nin0)
  have f1357 := (Ab.keep K1337 nin0)
  have f1358 := (Nat.le_trans Z0 K1337.1)
  have f1359 := (hold.keep K1337 all0)
  obtain ⟨cq1349, kq1349, q1349a, q1349b, q1349c⟩ := isOf hZ e1346 f1350
  obtain ⟨_, _, ⟨T1349, L1349, k1349, n1349⟩, -, X1349, ⟨Lc1349, hQ1349, l1349, y1349, z1349⟩, st1349⟩ := X1346.virtualBack hx (y := (⟨"java/lang/String", "equals", "(Ljava/lang/Object;)Z"⟩ : MethodName)) (z := (⟨"java/lang/String", "equals", "(Ljava/lang/Object;)Z"⟩ : MethodName)) hown (mvT hZ (wd hw 96 rfl)) (mvT hZ (wd hw 97 rfl)) (notFace_of_selects (args := #[]) (mvT hZ (wd hw 99 rfl))) (mvT hZ (wd hw 99 rfl)) (mvT hZ (wd hw 98 rfl)) (by decide) (backOf (W := 0) (rmEq9 l Z a0 hw [] dw a db b kd kb (own_t t_D) cf cs fo T1337.heap n0 f1358 f1350 f1351 f1352 f1354 f1355 f1356 f1353 f1357 (hold.ne hWd.1.lt ga) hCS hcs hSF hfo f1359) hZ (wd hw 100 rfl) (wd hw 2 rfl) (by decide) (by decide)) q1349a q1349c (g := (mkF m 30 #[.val (.ref a), .val .null, .val (.ref vb1337), .val (.int 2), .val (.int 0), .val (.ref dp)] [(.ref a), (.ref dw)])) rfl (by rw [hml]; rfl) (Steps.refl _) (argsL := [(.ref a)]) (rest := []) (lenOf pd_18 rfl) rfl (by show 2 * 0 + _ ≤ _; exact Nat.le_of_eq rfl) (hb hby d16_30) (fun _ _ => ⟨rfl, e1346, (by decide : 1 + 0 ≤ _), (by decide : 2 + 0 ≤ _)⟩)
  dsimp only [Pt.U, Pt.locs, Pt.cells, Pt.slots] at X1349 l1349 y1349 z1349 st1349 hQ1349
  obtain rfl : k1349 = 1 := y1349
  obtain rfl : n1349 = 2 := z1349
  obtain ⟨rfl, N1349q, e1349⟩ := hQ1349
  have N1349 : Fr n0 L1349 := by rw [l1349]; exact Fr.app N1337 N1349q
  have G1360 : Go p e below A0 (T1349.setTop (mkF m 33 #[.val (.ref a), .val .null, .val (.ref vb1337), .val (.int 2), .val (.int 0), .val (.ref dp)] [(.int (own_b (own_eqf 9 (own_t t_D) cf)))])) := fun tq kq => G1348 tq (st1349.trans kq)
  have G1361 : Go p e below A0 (T1349.setTop (mkF m 21 #[.val (.ref a), .val .null, .val (.ref vb1337), .val (.int 2), .val (.int 1), .val (.ref dp)] [(.int 1), (.ref vb1337)])) := fun tq kq => G1360 tq (by
    refine XS.ifYes X1349.here hx rfl (pc0 := 33) (pc' := 39) rfl (hb hby d16_33) rfl ((if0 _ _).trans (teq (own_b0 hPq)).1) (by decide) (by decide) ?_
    refine XS.iinc X1349.here hx rfl (hb hby d16_39) rfl (l' := #[.val (.ref a), .val .null, .val (.ref vb1337), .val (.int 2), .val (.int ((0 : Int32) + (1 : Int32))), .val (.ref dp)]) rfl ?_
    show Steps p.tables e below (T1349.setTop (mkF m 42 #[.val (.ref a), .val .null, .val (.ref vb1337), .val (.int 2), .val (.int ((0 : Int32) + (1 : Int32))), .val (.ref dp)] [])) _
    rw [show ((0 : Int32) + (1 : Int32)) = (1 : Int32) from (by decide : ((0 : Int32) + (1 : Int32)) = (1 : Int32))]
    show Steps p.tables e below (T1349.setTop (mkF m 42 #[.val (.ref a), .val .null, .val (.ref vb1337), .val (.int 2), .val (.int 1), .val (.ref dp)] [])) _
    refine XS.goto X1349.here hx rfl (pc0 := 42) (pc' := 12) rfl (hb hby d16_42) (by decide) (by decide) ?_
    refine XS.iload X1349.here hx rfl (hb hby d16_12) rfl ?_
    refine XS.iloadN X1349.here hx rfl (hb hby d16_14) rfl ?_
    refine XS.icmpNo X1349.here hx rfl (hb hby d16_15) rfl (by decide) ?_
    refine XS.aloadN X1349.here hx rfl (hb hby d16_18) rfl rfl ?_
    refine XS.iload X1349.here hx rfl (hb hby d16_19) rfl ?_
    exact kq)
  obtain ⟨cl1362, Ar1362, q1362, S1362, M1362, H1362, Gf1362⟩ := id Av1337
  have hi1363 : ¬ ((1 : Int32) < 0 ∨ cl1362.slots.size ≤ ((1 : Int32)).toNatClampNeg) := (inb_of S1362 ⟨by decide, by decide⟩)
  have G1364 : Go p e below A0 (T1349.setTop (mkF m 26 #[.val (.ref a), .val .null, .val (.ref vb1337), .val (.int 2), .val (.int 1), .val (.ref ip)] [(.ref ip)])) := fun tq kq => G1361 tq (by
    refine X1349.aaload hx (j := (1 : Int32)) (v := (.ref ip)) (by rw [e1349]; exact Ar1362.1) (State.isArrayOf_alike hZ.alike Ar1362.2.1) rfl Ar1362.2.2 hi1363 (H1362.at hi1363 rfl) (g := (mkF m 21 #[.val (.ref a), .val .null, .val (.ref vb1337), .val (.int 2), .val (.int 1), .val (.ref dp)] [(.int 1), (.ref vb1337)])) rfl rfl (hb hby d16_21) _ ?_
    show Steps p.tables e below (T1349.setTop (mkF m 22 #[.val (.ref a), .val .null, .val (.ref vb1337), .val (.int 2), .val (.int 1), .val (.ref dp)] [(.ref ip)])) _
    refine XS.astore X1349.here hx rfl (hb hby d16_22) rfl rfl (l' := #[.val (.ref a), .val .null, .val (.ref vb1337), .val (.int 2), .val (.int 1), .val (.ref ip)]) rfl ?_
    refine XS.aload X1349.here hx rfl (hb hby d16_24) rfl rfl ?_
    exact kq)
  have f1365 := (F2.keep K1337 nin0)
  obtain ⟨T1366, X1366, e1366, st1366⟩ := getF X1349 hx hZ hown (host := "") (Or.inl (wd hw 94 rfl)) Via.refl e1349 f1365 (g := (mkF m 26 #[.val (.ref a), .val .null, .val (.ref vb1337), .val (.int 2), .val (.int 1), .val (.ref ip)] [(.ref ip)])) rfl rfl (hb hby d16_26)
  have G1367 : Go p e below A0 (T1366.setTop (mkF m 29 #[.val (.ref a), .val .null, .val (.ref vb1337), .val (.int 2), .val (.int 1), .val (.ref ip)] [(.ref iw)])) := fun tq kq => G1364 tq (st1366 _ kq)
  have G1368 : Go p e below A0 (T1366.setTop (mkF m 30 #[.val (.ref a), .val .null, .val (.ref vb1337), .val (.int 2), .val (.int 1), .val (.ref ip)] [(.ref a), (.ref iw)])) := fun tq kq => G1367 tq (by
    refine XS.aloadN X1366.here hx rfl (hb hby d16_29) rfl rfl ?_
    exact kq)
  have f1370 := (E2.keep K1337)
  have f1371 := (Fv2.keep K1337 nin0)
  have f1372 := (Fc2.keep K1337 nin0)
  have f1373 := (A2.keep K1337 nin0)
  obtain ⟨cq1369, kq1369, q1369a, q1369b, q1369c⟩ := isOf hZ e1366 f1370
  obtain ⟨_, _, ⟨T1369, L1369, k1369, n1369⟩, -, X1369, ⟨Lc1369, hQ1369, l1369, y1369, z1369⟩, st1369⟩ := X1366.virtualBack hx (y := (⟨"java/lang/String", "equals", "(Ljava/lang/Object;)Z"⟩ : MethodName)) (z := (⟨"java/lang/String", "equals", "(Ljava/lang/Object;)Z"⟩ : MethodName)) hown (mvT hZ (wd hw 96 rfl)) (mvT hZ (wd hw 97 rfl)) (notFace_of_selects (args := #[]) (mvT hZ (wd hw 99 rfl))) (mvT hZ (wd hw 99 rfl)) (mvT hZ (wd hw 98 rfl)) (by decide) (backOf (W := 0) (rmEqX l Z a0 hw [] iw a ib b ki kb _ _ (11 : Int32) (9 : Int32) cs fo T1337.heap n0 f1358 f1370 f1371 f1372 f1354 f1355 f1356 f1373 f1357 (by decide) (hold.ne hWi.1.lt ga) hCS hcs hSF hfo f1359) hZ (wd hw 100 rfl) (wd hw 2 rfl) (by decide) (by decide)) q1369a q1369c (g := (mkF m 30 #[.val (.ref a), .val .null, .val (.ref vb1337), .val (.int 2), .val (.int 1), .val (.ref ip)] [(.ref a), (.ref iw)])) rfl (by rw [hml]; rfl) (Steps.refl _) (argsL := [(.ref a)]) (rest := []) (lenOf pd_18 rfl) rfl (by show 2 * 0 + _ ≤ _; exact Nat.le_of_eq rfl) (hb hby d16_30) (fun _ _ => ⟨rfl, e1366, (by decide : 1 + 0 ≤ _), (by decide : 2 + 0 ≤ _)⟩)
  dsimp only [Pt.U, Pt.locs, Pt.cells, Pt.slots] at X1369 l1369 y1369 z1369 st1369 hQ1369
  obtain rfl : k1369 = 1 := y1369
  obtain rfl : n1369 = 2 := z1369
  obtain ⟨rfl, N1369q, e1369⟩ := hQ1369
  have N1369 : Fr n0 L1369 := by rw [l1369]; exact Fr.app N1349 N1369q
  have G1374 : Go p e below A0 (T1369.setTop (mkF m 33 #[.val (.ref a), .val .null, .val (.ref vb1337), .val (.int 2), .val (.int 1), .val (.ref ip)] [(.int 0)])) := fun tq kq => G1368 tq (st1369.trans kq)
  have G1375 : Go p e below A0 (T1369.setTop (mkF m 46 #[.val (.ref a), .val .null, .val (.ref vb1337), .val (.int 2), .val (.int 2), .val (.ref ip)] [.null])) := fun tq kq => G1374 tq (by
    refine XS.ifYes X1369.here hx rfl (pc0 := 33) (pc' := 39) rfl (hb hby d16_33) rfl (by decide) (by decide) (by decide) ?_
    refine XS.iinc X1369.here hx rfl (hb hby d16_39) rfl (l' := #[.val (.ref a), .val .null, .val (.ref vb1337), .val (.int 2), .val (.int ((1 : Int32) + (1 : Int32))), .val (.ref ip)]) rfl ?_
    show Steps p.tables e below (T1369.setTop (mkF m 42 #[.val (.ref a), .val .null, .val (.ref vb1337), .val (.int 2), .val (.int ((1 : Int32) + (1 : Int32))), .val (.ref ip)] [])) _
    rw [show ((1 : Int32) + (1 : Int32)) = (2 : Int32) from (by decide : ((1 : Int32) + (1 : Int32)) = (2 : Int32))]
    show Steps p.tables e below (T1369.setTop (mkF m 42 #[.val (.ref a), .val .null, .val (.ref vb1337), .val (.int 2), .val (.int 2), .val (.ref ip)] [])) _
    refine XS.goto X1369.here hx rfl (pc0 := 42) (pc' := 12) rfl (hb hby d16_42) (by decide) (by decide) ?_
    refine XS.iload X1369.here hx rfl (hb hby d16_12) rfl ?_
    refine XS.iloadN X1369.here hx rfl (hb hby d16_14) rfl ?_
    refine XS.icmpYes X1369.here hx rfl (pc0 := 15) (pc' := 45) rfl (hb hby d16_15) rfl (by decide) (by decide) (by decide) ?_
    refine XS.aloadN X1369.here hx rfl (hb hby d16_45) rfl rfl ?_
    exact kq)
  obtain ⟨fs, hr, hrun, hended, hW, hsame⟩ := X1369.leave (v := some .null) (fun h => by rw [Bd.returns] at h; cases h)
  refine ⟨_, _, (by rw [← hA0]; exact G1375 _ (retOut X1369 hx (t := (.object "com/example/role_delegation/roledelegation/RevocationKind")) Bd.returns rfl (Or.inr (Or.inr (Or.inr (Or.inr ⟨rfl, rfl, rfl⟩)))) (hb hby d16_46) hr)), hrun, hended, _, _, rfl, ?_, ⟨_, rfl⟩, hW, hsame.mono (by decide) (by decide)⟩
  show Qnm .null h0 n0 _ T1369.heap _
  rw [e1369]
  exact ⟨rfl, N1369, ((Keep.refl h0 []).trans K1337 all0)⟩
set_option maxRecDepth 65536 in
set_option maxHeartbeats 40000000 in
theorem rmN11T (l : Launch) (Z : State) (a0 : Array Value) (hw : ∀ d ∈ tables_1, d.before a0 Z = true) (ws : List Jvm.Cond) (va : Addr) (kv : ClassId) (dp ip : Addr) (dw db iw ib : Addr) (kd ki : ClassId) (a b : Addr) (kb : ClassId) (cf : Nat → Int32) (cs : Int32) (fo : Value) (h0 : Heap) (n0 : Nat) (Z0 : n0 ≤ h0.size) (hVS : Sta Z Z.heap "com/example/role_delegation/roledelegation/RevocationKind" "$VALUES" "[Lcom/example/role_delegation/roledelegation/RevocationKind;" (.ref va)) (hEV : Exa Z Z.heap va "[Lcom/example/role_delegation/roledelegation/RevocationKind;") (hAV : Arv Z Z.heap va kv (.object "com/example/role_delegation/roledelegation/RevocationKind") (2 : Int32) [.ref dp, .ref ip] .null) (hWd : Wd Z Z.heap dp dw db kd (9 : Int32) t_D) (hWi : Wd Z Z.heap ip iw ib ki (11 : Int32) t_I) (E : Exa Z h0 a "java/lang/String") (Fv : Fld Z h0 a "java/lang/String" "value" "[B" (.ref b)) (Fc : Fld Z h0 a "java/lang/String" "coder" "B" (.int 0)) (ga : n0 ≤ a) (Ab : Af Z h0 b kb .byte (11 : Int32) (fun j => .int (own_by (cf j)))) (hPq : (own_eqf 11 (own_t t_I) cf)) (hCS : Sta Z Z.heap "java/lang/String" "COMPACT_STRINGS" "Z" (.int cs)) (hcs : ¬ cs = (0 : Int32)) (hSF : Sta Z Z.heap "jdk/internal/util/Preconditions" "SIOOBE_FORMATTER" "Ljava/util/function/BiFunction;" fo) (hfo : fo.isRef = true) (hold : Old Z n0 h0) :
    MetFree l (⟨"com/example/role_delegation/roledelegation/RevocationKind", "named", "(Ljava/lang/String;)Lcom/example/role_delegation/roledelegation/RevocationKind;"⟩ : MethodName) (head1 (Jvm.Cond.code (⟨"com/example/role_delegation/roledelegation/RevocationKind", "named", "(Ljava/lang/String;)Lcom/example/role_delegation/roledelegation/RevocationKind;"⟩ : MethodName) prog_51_method_5_code 6 (some (.object "com/example/role_delegation/roledelegation/RevocationKind")) :: ws) (Rm 2 1 2 28)) (fun aa UU => aa = #[(.ref a)] ∧ Z.Warmed39 UU.vm ∧ UU.heap = h0) (fun _ _ _ _ _ => True) (fun _ UU oo U' => ∃ v L, oo = .returned v ∧ Qnm (.ref ip) h0 n0 v U'.heap L ∧ FrameEnd UU oo U' L (Rm 2 1 2 28).cells (Rm 2 1 2 28).slots) := by
  refine MetFree.of_bodySF (plainFor_of_name pn_5) hisR ?_
  intro p e s m args below meth c s₁ Bd hml0 hP hK
  obtain ⟨rfl, hZ, hh⟩ := hP
  have hx := Bd.exec
  have hby := Bd.bytes
  have hml : c.maxLocals = 6 := hml0
  have hown : s.vm.findClass "com/example/role_delegation/roledelegation/RevocationKind" = some m.cls := findClass_of_methodNamed Bd.named
  have hnm := (name_of_methodNamed Bd.named Bd.method).1
  have X0 : Stand p l e (Rm 2 1 2 28) s m #[(.ref a)] below meth c s₁ [] 0 0 := Stand.of_body Bd
  have e0 : s₁.heap = h0 := by rw [← hh, Bd.state]; rfl
  have N0 := Fr.nil n0
  obtain ⟨A0, hA0⟩ : ∃ A, A = s₁.setTop (entryFrame m #[(.ref a)] 6) := ⟨_, rfl⟩
  have G0 : Go p e below A0 (s₁.setTop (mkF m 0 #[.val (.ref a), .unset, .unset, .unset, .unset, .unset] [])) := fun tq kq => by rw [hA0]; exact castTop (ef_rmN11T m a) kq
  obtain ⟨E1, F1, Fv1, Fc1, A1⟩ := hWd.ext hold.2
  obtain ⟨E2, F2, Fv2, Fc2, A2⟩ := hWi.ext hold.2
  have G1376 : Go p e below A0 (s₁.setTop (mkF m 2 #[.val (.ref a), .val .null, .unset, .unset, .unset, .unset] [])) := fun tq kq => G0 tq (by
    refine XS.aconstNull X0.here hx rfl (hb hby d16_0) ?_
    refine XS.astoreN X0.here hx rfl (hb hby d16_1) rfl rfl (l' := #[.val (.ref a), .val .null, .unset, .unset, .unset, .unset]) rfl ?_
    exact kq)
  obtain ⟨_, _, ⟨T1377, L1377, k1377, n1377⟩, -, X1377, ⟨Lc1377, hQ1377, l1377, y1377, z1377⟩, st1377⟩ := Jvm.LawKit.callS X0 hx (y := (⟨"com/example/role_delegation/roledelegation/RevocationKind", "values", "()[Lcom/example/role_delegation/roledelegation/RevocationKind;"⟩ : MethodName)) hown (mvT hZ (wd hw 77 rfl)) (mvT hZ (wd hw 78 rfl)) (mvT hZ (wd hw 75 rfl)) (mvT hZ (wd hw 79 rfl)) (by decide) (backOf (W := 0) (rmVL l Z a0 hw [] va kv dp ip h0 n0 Z0 hVS hEV hAV hold) hZ (wd hw 79 rfl) (wd hw 75 rfl) (by decide) (by decide)) (g := (mkF m 2 #[.val (.ref a), .val .null, .unset, .unset, .unset, .unset] [])) rfl (by rw [hml]; rfl) (argsL := []) (rest := []) (lenOf pd_17 rfl) rfl (by show 2 * 0 + _ ≤ _; exact Nat.le_of_eq rfl) (hb hby d16_2) (fun _ _ => ⟨rfl, e0, (by decide : 0 + 1 ≤ _), (by decide : 0 + 2 ≤ _)⟩)
  dsimp only [Pt.U, Pt.locs, Pt.cells, Pt.slots] at X1377 l1377 y1377 z1377 st1377 hQ1377
  obtain rfl : k1377 = 1 := y1377
  obtain rfl : n1377 = 2 := z1377
  obtain ⟨vb1377, vk1377, rfl, N1377q, K1377, Av1377⟩ := hQ1377
  have N1377 : Fr n0 L1377 := by rw [l1377]; exact Fr.app N0 N1377q
  have G1378 : Go p e below A0 (T1377.setTop (mkF m 5 #[.val (.ref a), .val .null, .unset, .unset, .unset, .unset] [(.ref vb1377)])) := fun tq kq => G1376 tq (st1377 _ kq)
  have G1379 : Go p e below A0 (T1377.setTop (mkF m 7 #[.val (.ref a), .val .null, .val (.ref vb1377), .unset, .unset, .unset] [(.ref vb1377)])) := fun tq kq => G1378 tq (by
    refine XS.astoreN X1377.here hx rfl (hb hby d16_5) rfl rfl (l' := #[.val (.ref a), .val .null, .val (.ref vb1377), .unset, .unset, .unset]) rfl ?_
    refine XS.aloadN X1377.here hx rfl (hb hby d16_6) rfl rfl ?_
    exact kq)
  obtain ⟨cl1380, Ar1380, q1380, S1380, M1380, H1380, Gf1380⟩ := id Av1377
  have G1381 : Go p e below A0 (T1377.setTop (mkF m 21 #[.val (.ref a), .val .null, .val (.ref vb1377), .val (.int 2), .val (.int 0), .unset] [(.int 0), (.ref vb1377)])) := fun tq kq => G1379 tq (by
    refine X1377.arraylength hx Ar1380.1 (State.isArrayOf_alike hZ.alike Ar1380.2.1) (g := (mkF m 7 #[.val (.ref a), .val .null, .val (.ref vb1377), .unset, .unset, .unset] [(.ref vb1377)])) rfl rfl (hb hby d16_7) _ ?_
    rw [len_of S1380 M1380]
    show Steps p.tables e below (T1377.setTop (mkF m 8 #[.val (.ref a), .val .null, .val (.ref vb1377), .unset, .unset, .unset] [(.int 2)])) _
    refine XS.istoreN X1377.here hx rfl (hb hby d16_8) rfl (l' := #[.val (.ref a), .val .null, .val (.ref vb1377), .val (.int 2), .unset, .unset]) rfl ?_
    refine XS.iconst X1377.here hx rfl (hb hby d16_9) ?_
    refine XS.istore X1377.here hx rfl (hb hby d16_10) rfl (l' := #[.val (.ref a), .val .null, .val (.ref vb1377), .val (.int 2), .val (.int 0), .unset]) rfl ?_
    refine XS.iload X1377.here hx rfl (hb hby d16_12) rfl ?_
    refine XS.iloadN X1377.here hx rfl (hb hby d16_14) rfl ?_
    refine XS.icmpNo X1377.here hx rfl (hb hby d16_15) rfl (by decide) ?_
    refine XS.aloadN X1377.here hx rfl (hb hby d16_18) rfl rfl ?_
    refine XS.iload X1377.here hx rfl (hb hby d16_19) rfl ?_
    exact kq)
  obtain ⟨cl1382, Ar1382, q1382, S1382, M1382, H1382, Gf1382⟩ := id Av1377
  have hi1383 : ¬ ((0 : Int32) < 0 ∨ cl1382.slots.size ≤ ((0 : Int32)).toNatClampNeg) := (inb_of S1382 ⟨by decide, by decide⟩)
  have G1384 : Go p e below A0 (T1377.setTop (mkF m 26 #[.val (.ref a), .val .null, .val (.ref vb1377), .val (.int 2), .val (.int 0), .val (.ref dp)] [(.ref dp)])) := fun tq kq => G1381 tq (by
    refine X1377.aaload hx (j := (0 : Int32)) (v := (.ref dp)) Ar1382.1 (State.isArrayOf_alike hZ.alike Ar1382.2.1) rfl Ar1382.2.2 hi1383 (H1382.at hi1383 rfl) (g := (mkF m 21 #[.val (.ref a), .val .null, .val (.ref vb1377), .val (.int 2), .val (.int 0), .unset] [(.int 0), (.ref vb1377)])) rfl rfl (hb hby d16_21) _ ?_
    show Steps p.tables e below (T1377.setTop (mkF m 22 #[.val (.ref a), .val .null, .val (.ref vb1377), .val (.int 2), .val (.int 0), .unset] [(.ref dp)])) _
    refine XS.astore X1377.here hx rfl (hb hby d16_22) rfl rfl (l' := #[.val (.ref a), .val .null, .val (.ref vb1377), .val (.int 2), .val (.int 0), .val (.ref dp)]) rfl ?_
    refine XS.aload X1377.here hx rfl (hb hby d16_24) rfl rfl ?_
    exact kq)
  have f1385 := (F1.keep K1377 nin0)
  obtain ⟨T1386, X1386, e1386, st1386⟩ := getF X1377 hx hZ hown (host := "") (Or.inl (wd hw 94 rfl)) Via.refl rfl f1385 (g := (mkF m 26 #[.val (.ref a), .val .null, .val (.ref vb1377), .val (.int 2), .val (.int 0), .val (.ref dp)] [(.ref dp)])) rfl rfl (hb hby d16_26)
  have G1387 : Go p e below A0 (T1386.setTop (mkF m 29 #[.val (.ref a), .val .null, .val (.ref vb1377), .val (.int 2), .val (.int 0), .val (.ref dp)] [(.ref dw)])) := fun tq kq => G1384 tq (st1386 _ kq)
  have G1388 : Go p e below A0 (T1386.setTop (mkF m 30 #[.val (.ref a), .val .null, .val (.ref vb1377), .val (.int 2), .val (.int 0), .val (.ref dp)] [(.ref a), (.ref dw)])) := fun tq kq => G1387 tq (by
    refine XS.aloadN X1386.here hx rfl (hb hby d16_29) rfl rfl ?_
    exact kq)
  have f1390 := (E1.keep K1377)
  have f1391 := (Fv1.keep K1377 nin0)
  have f1392 := (Fc1.keep K1377 nin0)
  have f1393 := (A1.keep K1377 nin0)
  have f1394 := (E.keep K1377)
  have f1395 := (Fv.keep K1377 nin0)
  have f1396 := (Fc.keep K1377 nin0)
  have f1397 := (Ab.keep K1377 nin0)
  have f1398 := (Nat.le_trans Z0 K1377.1)
  have f1399 := (hold.keep K1377 all0)
  obtain ⟨cq1389, kq1389, q1389a, q1389b, q1389c⟩ := isOf hZ e1386 f1390
  obtain ⟨_, _, ⟨T1389, L1389, k1389, n1389⟩, -, X1389, ⟨Lc1389, hQ1389, l1389, y1389, z1389⟩, st1389⟩ := X1386.virtualBack hx (y := (⟨"java/lang/String", "equals", "(Ljava/lang/Object;)Z"⟩ : MethodName)) (z := (⟨"java/lang/String", "equals", "(Ljava/lang/Object;)Z"⟩ : MethodName)) hown (mvT hZ (wd hw 96 rfl)) (mvT hZ (wd hw 97 rfl)) (notFace_of_selects (args := #[]) (mvT hZ (wd hw 99 rfl))) (mvT hZ (wd hw 99 rfl)) (mvT hZ (wd hw 98 rfl)) (by decide) (backOf (W := 0) (rmEqX l Z a0 hw [] dw a db b kd kb _ _ (9 : Int32) (11 : Int32) cs fo T1377.heap n0 f1398 f1390 f1391 f1392 f1394 f1395 f1396 f1393 f1397 (by decide) (hold.ne hWd.1.lt ga) hCS hcs hSF hfo f1399) hZ (wd hw 100 rfl) (wd hw 2 rfl) (by decide) (by decide)) q1389a q1389c (g := (mkF m 30 #[.val (.ref a), .val .null, .val (.ref vb1377), .val (.int 2), .val (.int 0), .val (.ref dp)] [(.ref a), (.ref dw)])) rfl (by rw [hml]; rfl) (Steps.refl _) (argsL := [(.ref a)]) (rest := []) (lenOf pd_18 rfl) rfl (by show 2 * 0 + _ ≤ _; exact Nat.le_of_eq rfl) (hb hby d16_30) (fun _ _ => ⟨rfl, e1386, (by decide : 1 + 0 ≤ _), (by decide : 2 + 0 ≤ _)⟩)
  dsimp only [Pt.U, Pt.locs, Pt.cells, Pt.slots] at X1389 l1389 y1389 z1389 st1389 hQ1389
  obtain rfl : k1389 = 1 := y1389
  obtain rfl : n1389 = 2 := z1389
  obtain ⟨rfl, N1389q, e1389⟩ := hQ1389
  have N1389 : Fr n0 L1389 := by rw [l1389]; exact Fr.app N1377 N1389q
  have G1400 : Go p e below A0 (T1389.setTop (mkF m 33 #[.val (.ref a), .val .null, .val (.ref vb1377), .val (.int 2), .val (.int 0), .val (.ref dp)] [(.int 0)])) := fun tq kq => G1388 tq (st1389.trans kq)
  have G1401 : Go p e below A0 (T1389.setTop (mkF m 21 #[.val (.ref a), .val .null, .val (.ref vb1377), .val (.int 2), .val (.int 1), .val (.ref dp)] [(.int 1), (.ref vb1377)])) := fun tq kq => G1400 tq (by
    refine XS.ifYes X1389.here hx rfl (pc0 := 33) (pc' := 39) rfl (hb hby d16_33) rfl (by decide) (by decide) (by decide) ?_
    refine XS.iinc X1389.here hx rfl (hb hby d16_39) rfl (l' := #[.val (.ref a), .val .null, .val (.ref vb1377), .val (.int 2), .val (.int ((0 : Int32) + (1 : Int32))), .val (.ref dp)]) rfl ?_
    show Steps p.tables e below (T1389.setTop (mkF m 42 #[.val (.ref a), .val .null, .val (.ref vb1377), .val (.int 2), .val (.int ((0 : Int32) + (1 : Int32))), .val (.ref dp)] [])) _
    rw [show ((0 : Int32) + (1 : Int32)) = (1 : Int32) from (by decide : ((0 : Int32) + (1 : Int32)) = (1 : Int32))]
    show Steps p.tables e below (T1389.setTop (mkF m 42 #[.val (.ref a), .val .null, .val (.ref vb1377), .val (.int 2), .val (.int 1), .val (.ref dp)] [])) _
    refine XS.goto X1389.here hx rfl (pc0 := 42) (pc' := 12) rfl (hb hby d16_42) (by decide) (by decide) ?_
    refine XS.iload X1389.here hx rfl (hb hby d16_12) rfl ?_
    refine XS.iloadN X1389.here hx rfl (hb hby d16_14) rfl ?_
    refine XS.icmpNo X1389.here hx rfl (hb hby d16_15) rfl (by decide) ?_
    refine XS.aloadN X1389.here hx rfl (hb hby d16_18) rfl rfl ?_
    refine XS.iload X1389.here hx rfl (hb hby d16_19) rfl ?_
    exact kq)
  obtain ⟨cl1402, Ar1402, q1402, S1402, M1402, H1402, Gf1402⟩ := id Av1377
  have hi1403 : ¬ ((1 : Int32) < 0 ∨ cl1402.slots.size ≤ ((1 : Int32)).toNatClampNeg) := (inb_of S1402 ⟨by decide, by decide⟩)
  have G1404 : Go p e below A0 (T1389.setTop (mkF m 26 #[.val (.ref a), .val .null, .val (.ref vb1377), .val (.int 2), .val (.int 1), .val (.ref ip)] [(.ref ip)])) := fun tq kq => G1401 tq (by
    refine X1389.aaload hx (j := (1 : Int32)) (v := (.ref ip)) (by rw [e1389]; exact Ar1402.1) (State.isArrayOf_alike hZ.alike Ar1402.2.1) rfl Ar1402.2.2 hi1403 (H1402.at hi1403 rfl) (g := (mkF m 21 #[.val (.ref a), .val .null, .val (.ref vb1377), .val (.int 2), .val (.int 1), .val (.ref dp)] [(.int 1), (.ref vb1377)])) rfl rfl (hb hby d16_21) _ ?_
    show Steps p.tables e below (T1389.setTop (mkF m 22 #[.val (.ref a), .val .null, .val (.ref vb1377), .val (.int 2), .val (.int 1), .val (.ref dp)] [(.ref ip)])) _
    refine XS.astore X1389.here hx rfl (hb hby d16_22) rfl rfl (l' := #[.val (.ref a), .val .null, .val (.ref vb1377), .val (.int 2), .val (.int 1), .val (.ref ip)]) rfl ?_
    refine XS.aload X1389.here hx rfl (hb hby d16_24) rfl rfl ?_
    exact kq)
  have f1405 := (F2.keep K1377 nin0)
  obtain ⟨T1406, X1406, e1406, st1406⟩ := getF X1389 hx hZ hown (host := "") (Or.inl (wd hw 94 rfl)) Via.refl e1389 f1405 (g := (mkF m 26 #[.val (.ref a), .val .null, .val (.ref vb1377), .val (.int 2), .val (.int 1), .val (.ref ip)] [(.ref ip)])) rfl rfl (hb hby d16_26)
  have G1407 : Go p e below A0 (T1406.setTop (mkF m 29 #[.val (.ref a), .val .null, .val (.ref vb1377), .val (.int 2), .val (.int 1), .val (.ref ip)] [(.ref iw)])) := fun tq kq => G1404 tq (st1406 _ kq)
  have G1408 : Go p e below A0 (T1406.setTop (mkF m 30 #[.val (.ref a), .val .null, .val (.ref vb1377), .val (.int 2), .val (.int 1), .val (.ref ip)] [(.ref a), (.ref iw)])) := fun tq kq => G1407 tq (by
    refine XS.aloadN X1406.here hx rfl (hb hby d16_29) rfl rfl ?_
    exact kq)
  have f1410 := (E2.keep K1377)
  have f1411 := (Fv2.keep K1377 nin0)
  have f1412 := (Fc2.keep K1377 nin0)
  have f1413 := (A2.keep K1377 nin0)
  obtain ⟨cq1409, kq1409, q1409a, q1409b, q1409c⟩ := isOf hZ e1406 f1410
  obtain ⟨_, _, ⟨T1409, L1409, k1409, n1409⟩, -, X1409, ⟨Lc1409, hQ1409, l1409, y1409, z1409⟩, st1409⟩ := X1406.virtualBack hx (y := (⟨"java/lang/String", "equals", "(Ljava/lang/Object;)Z"⟩ : MethodName)) (z := (⟨"java/lang/String", "equals", "(Ljava/lang/Object;)Z"⟩ : MethodName)) hown (mvT hZ (wd hw 96 rfl)) (mvT hZ (wd hw 97 rfl)) (notFace_of_selects (args := #[]) (mvT hZ (wd hw 99 rfl))) (mvT hZ (wd hw 99 rfl)) (mvT hZ (wd hw 98 rfl)) (by decide) (backOf (W := 0) (rmEq11 l Z a0 hw [] iw a ib b ki kb (own_t t_I) cf cs fo T1377.heap n0 f1398 f1410 f1411 f1412 f1394 f1395 f1396 f1413 f1397 (hold.ne hWi.1.lt ga) hCS hcs hSF hfo f1399) hZ (wd hw 100 rfl) (wd hw 2 rfl) (by decide) (by decide)) q1409a q1409c (g := (mkF m 30 #[.val (.ref a), .val .null, .val (.ref vb1377), .val (.int 2), .val (.int 1), .val (.ref ip)] [(.ref a), (.ref iw)])) rfl (by rw [hml]; rfl) (Steps.refl _) (argsL := [(.ref a)]) (rest := []) (lenOf pd_18 rfl) rfl (by show 2 * 0 + _ ≤ _; exact Nat.le_of_eq rfl) (hb hby d16_30) (fun _ _ => ⟨rfl, e1406, (by decide : 1 + 0 ≤ _), (by decide : 2 + 0 ≤ _)⟩)
  dsimp only [Pt.U, Pt.locs, Pt.cells, Pt.slots] at X1409 l1409 y1409 z1409 st1409 hQ1409
  obtain rfl : k1409 = 1 := y1409
  obtain rfl : n1409 = 2 := z1409
  obtain ⟨rfl, N1409q, e1409⟩ := hQ1409
  have N1409 : Fr n0 L1409 := by rw [l1409]; exact Fr.app N1389 N1409q
  have G1414 : Go p e below A0 (T1409.setTop (mkF m 33 #[.val (.ref a), .val .null, .val (.ref vb1377), .val (.int 2), .val (.int 1), .val (.ref ip)] [(.int (own_b (own_eqf 11 (own_t t_I) cf)))])) := fun tq kq => G1408 tq (st1409.trans kq)
  have G1415 : Go p e below A0 (T1409.setTop (mkF m 46 #[.val (.ref a), .val (.ref ip), .val (.ref vb1377), .val (.int 2), .val (.int 2), .val (.ref ip)] [(.ref ip)])) := fun tq kq => G1414 tq (by
    refine XS.ifNo X1409.here hx rfl (hb hby d16_33) rfl ((if0 _ _).trans (feq (own_b1 hPq)).1) ?_
    refine XS.aload X1409.here hx rfl (hb hby d16_36) rfl rfl ?_
    refine XS.astoreN X1409.here hx rfl (hb hby d16_38) rfl rfl (l' := #[.val (.ref a), .val (.ref ip), .val (.ref vb1377), .val (.int 2), .val (.int 1), .val (.ref ip)]) rfl ?_
    refine XS.iinc X1409.here hx rfl (hb hby d16_39) rfl (l' := #[.val (.ref a), .val (.ref ip), .val (.ref vb1377), .val (.int 2), .val (.int ((1 : Int32) + (1 : Int32))), .val (.ref ip)]) rfl ?_
    show Steps p.tables e below (T1409.setTop (mkF m 42 #[.val (.ref a), .val (.ref ip), .val (.ref vb1377), .val (.int 2), .val (.int ((1 : Int32) + (1 : Int32))), .val (.ref ip)] [])) _
    rw [show ((1 : Int32) + (1 : Int32)) = (2 : Int32) from (by decide : ((1 : Int32) + (1 : Int32)) = (2 : Int32))]
    show Steps p.tables e below (T1409.setTop (mkF m 42 #[.val (.ref a), .val (.ref ip), .val (.ref vb1377), .val (.int 2), .val (.int 2), .val (.ref ip)] [])) _
    refine XS.goto X1409.here hx rfl (pc0 := 42) (pc' := 12) rfl (hb hby d16_42) (by decide) (by decide) ?_
    refine XS.iload X1409.here hx rfl (hb hby d16_12) rfl ?_
    refine XS.iloadN X1409.here hx rfl (hb hby d16_14) rfl ?_
    refine XS.icmpYes X1409.here hx rfl (pc0 := 15) (pc' := 45) rfl (hb hby d16_15) rfl (by decide) (by decide) (by decide) ?_
    refine XS.aloadN X1409.here hx rfl (hb hby d16_45) rfl rfl ?_
    exact kq)
  obtain ⟨fs, hr, hrun, hended, hW, hsame⟩ := X1409.leave (v := some (.ref ip)) (fun h => by rw [Bd.returns] at h; cases h)
  refine ⟨_, _, (by rw [← hA0]; exact G1415 _ (retOut X1409 hx (t := (.object "com/example/role_delegation/roledelegation/RevocationKind")) Bd.returns rfl (Or.inr (Or.inr (Or.inr (Or.inr ⟨rfl, rfl, rfl⟩)))) (hb hby d16_46) hr)), hrun, hended, _, _, rfl, ?_, ⟨_, rfl⟩, hW, hsame.mono (by decide) (by decide)⟩
  show Qnm (.ref ip) h0 n0 _ T1409.heap _
  rw [e1409]
  exact ⟨rfl, N1409, ((Keep.refl h0 []).trans K1377 all0)⟩
set_option maxRecDepth 65536 in
set_option maxHeartbeats 40000000 in
theorem rmN11F (l : Launch) (Z : State) (a0 : Array Value) (hw : ∀ d ∈ tables_1, d.before a0 Z = true) (ws : List Jvm.Cond) (va : Addr) (kv : ClassId) (dp ip : Addr) (dw db iw ib : Addr) (kd ki : ClassId) (a b : Addr) (kb : ClassId) (cf : Nat → Int32) (cs : Int32) (fo : Value) (h0 : Heap) (n0 : Nat) (Z0 : n0 ≤ h0.size) (hVS : Sta Z Z.heap "com/example/role_delegation/roledelegation/RevocationKind" "$VALUES" "[Lcom/example/role_delegation/roledelegation/RevocationKind;" (.ref va)) (hEV : Exa Z Z.heap va "[Lcom/example/role_delegation/roledelegation/RevocationKind;") (hAV : Arv Z Z.heap va kv (.object "com/example/role_delegation/roledelegation/RevocationKind") (2 : Int32) [.ref dp, .ref ip] .null) (hWd : Wd Z Z.heap dp dw db kd (9 : Int32) t_D) (hWi : Wd Z Z.heap ip iw ib ki (11 : Int32) t_I) (E : Exa Z h0 a "java/lang/String") (Fv : Fld Z h0 a "java/lang/String" "value" "[B" (.ref b)) (Fc : Fld Z h0 a "java/lang/String" "coder" "B" (.int 0)) (ga : n0 ≤ a) (Ab : Af Z h0 b kb .byte (11 : Int32) (fun j => .int (own_by (cf j)))) (hPq : ¬ (own_eqf 11 (own_t t_I) cf)) (hCS : Sta Z Z.heap "java/lang/String" "COMPACT_STRINGS" "Z" (.int cs)) (hcs : ¬ cs = (0 : Int32)) (hSF : Sta Z Z.heap "jdk/internal/util/Preconditions" "SIOOBE_FORMATTER" "Ljava/util/function/BiFunction;" fo) (hfo : fo.isRef = true) (hold : Old Z n0 h0) :
    MetFree l (⟨"com/example/role_delegation/roledelegation/RevocationKind", "named", "(Ljava/lang/String;)Lcom/example/role_delegation/roledelegation/RevocationKind;"⟩ : MethodName) (head1 (Jvm.Cond.code (⟨"com/example/role_delegation/roledelegation/RevocationKind", "named", "(Ljava/lang/String;)Lcom/example/role_delegation/roledelegation/RevocationKind;"⟩ : MethodName) prog_51_method_5_code 6 (some (.object "com/example/role_delegation/roledelegation/RevocationKind")) :: ws) (Rm 2 1 2 28)) (fun aa UU => aa = #[(.ref a)] ∧ Z.Warmed39 UU.vm ∧ UU.heap = h0) (fun _ _ _ _ _ => True) (fun _ UU oo U' => ∃ v L, oo = .returned v ∧ Qnm .null h0 n0 v U'.heap L ∧ FrameEnd UU oo U' L (Rm 2 1 2 28).cells (Rm 2 1 2 28).slots) := by
  refine MetFree.of_bodySF (plainFor_of_name pn_5) hisR ?_
  intro p e s m args below meth c s₁ Bd hml0 hP hK
  obtain ⟨rfl, hZ, hh⟩ := hP
  have hx := Bd.exec
  have hby := Bd.bytes
  have hml : c.maxLocals = 6 := hml0
  have hown : s.vm.findClass "com/example/role_delegation/roledelegation/RevocationKind" = some m.cls := findClass_of_methodNamed Bd.named
  have hnm := (name_of_methodNamed Bd.named Bd.method).1
  have X0 : Stand p l e (Rm 2 1 2 28) s m #[(.ref a)] below meth c s₁ [] 0 0 := Stand.of_body Bd
  have e0 : s₁.heap = h0 := by rw [← hh, Bd.state]; rfl
  have N0 := Fr.nil n0
  obtain ⟨A0, hA0⟩ : ∃ A, A = s₁.setTop (entryFrame m #[(.ref a)] 6) := ⟨_, rfl⟩
  have G0 : Go p e below A0 (s₁.setTop (mkF m 0 #[.val (.ref a), .unset, .unset, .unset, .unset, .unset] [])) := fun tq kq => by rw [hA0]; exact castTop (ef_rmN11F m a) kq
  obtain ⟨E1, F1, Fv1, Fc1, A1⟩ := hWd.ext hold.2
  obtain ⟨E2, F2, Fv2, Fc2, A2⟩ := hWi.ext hold.2
  have G1416 : Go p e below A0 (s₁.setTop (mkF m 2 #[.val (.ref a), .val .null, .unset, .unset, .unset, .unset] [])) := fun tq kq => G0 tq (by
    refine XS.aconstNull X0.here hx rfl (hb hby d16_0) ?_
    refine XS.astoreN X0.here hx rfl (hb hby d16_1) rfl rfl (l' := #[.val (.ref a), .val .null, .unset, .unset, .unset, .unset]) rfl ?_
    exact kq)
  obtain ⟨_, _, ⟨T1417, L1417, k1417, n1417⟩, -, X1417, ⟨Lc1417, hQ1417, l1417, y1417, z1417⟩, st1417⟩ := Jvm.LawKit.callS X0 hx (y := (⟨"com/example/role_delegation/roledelegation/RevocationKind", "values", "()[Lcom/example/role_delegation/roledelegation/RevocationKind;"⟩ : MethodName)) hown (mvT hZ (wd hw 77 rfl)) (mvT hZ (wd hw 78 rfl)) (mvT hZ (wd hw 75 rfl)) (mvT hZ (wd hw 79 rfl)) (by decide) (backOf (W := 0) (rmVL l Z a0 hw [] va kv dp ip h0 n0 Z0 hVS hEV hAV hold) hZ (wd hw 79 rfl) (wd hw 75 rfl) (by decide) (by decide)) (g := (mkF m 2 #[.val (.ref a), .val .null, .unset, .unset, .unset, .unset] [])) rfl (by rw [hml]; rfl) (argsL := []) (rest := []) (lenOf pd_17 rfl) rfl (by show 2 * 0 + _ ≤ _; exact Nat.le_of_eq rfl) (hb hby d16_2) (fun _ _ => ⟨rfl, e0, (by decide : 0 + 1 ≤ _), (by decide : 0 + 2 ≤ _)⟩)
  dsimp only [Pt.U, Pt.locs, Pt.cells, Pt.slots] at X1417 l1417 y1417 z1417 st1417 hQ1417
  obtain rfl : k1417 = 1 := y1417
  obtain rfl : n1417 = 2 := z1417
  obtain ⟨vb1417, vk1417, rfl, N1417q, K1417, Av1417⟩ := hQ1417
  have N1417 : Fr n0 L1417 := by rw [l1417]; exact Fr.app N0 N1417q
  have G1418 : Go p e below A0 (T1417.setTop (mkF m 5 #[.val (.ref a), .val .null, .unset, .unset, .unset, .unset] [(.ref vb1417)])) := fun tq kq => G1416 tq (st1417 _ kq)
  have G1419 : Go p e below A0 (T1417.setTop (mkF m 7 #[.val (.ref a), .val .null, .val (.ref vb1417), .unset, .unset, .unset] [(.ref vb1417)])) := fun tq kq => G1418 tq (by
    refine XS.astoreN X1417.here hx rfl (hb hby d16_5) rfl rfl (l' := #[.val (.ref a), .val .null, .val (.ref vb1417), .unset, .unset, .unset]) rfl ?_
    refine XS.aloadN X1417.here hx rfl (hb hby d16_6) rfl rfl ?_
    exact kq)
  obtain ⟨cl1420, Ar1420, q1420, S1420, M1420, H1420, Gf1420⟩ := id Av1417
  have G1421 : Go p e below A0 (T1417.setTop (mkF m 21 #[.val (.ref a), .val .null, .val (.ref vb1417), .val (.int 2), .val (.int 0), .unset] [(.int 0), (.ref vb1417)])) := fun tq kq => G1419 tq (by
    refine X1417.arraylength hx Ar1420.1 (State.isArrayOf_alike hZ.alike Ar1420.2.1) (g := (mkF m 7 #[.val (.ref a), .val .null, .val (.ref vb1417), .unset, .unset, .unset] [(.ref vb1417)])) rfl rfl (hb hby d16_7) _ ?_
    rw [len_of S1420 M1420]
    show Steps p.tables e below (T1417.setTop (mkF m 8 #[.val (.ref a), .val .null, .val (.ref vb1417), .unset, .unset, .unset] [(.int 2)])) _
    refine XS.istoreN X1417.here hx rfl (hb hby d16_8) rfl (l' := #[.val (.ref a), .val .null, .val (.ref vb1417), .val (.int 2), .unset, .unset]) rfl ?_
    refine XS.iconst X1417.here hx rfl (hb hby d16_9) ?_
    refine XS.istore X1417.here hx rfl (hb hby d16_10) rfl (l' := #[.val (.ref a), .val .null, .val (.ref vb1417), .val (.int 2), .val (.int 0), .unset]) rfl ?_
    refine XS.iload X1417.here hx rfl (hb hby d16_12) rfl ?_
    refine XS.iloadN X1417.here hx rfl (hb hby d16_14) rfl ?_
    refine XS.icmpNo X1417.here hx rfl (hb hby d16_15) rfl (by decide) ?_
    refine XS.aloadN X1417.here hx rfl (hb hby d16_18) rfl rfl ?_
    refine XS.iload X1417.here hx rfl (hb hby d16_19) rfl ?_
    exact kq)
  obtain ⟨cl1422, Ar1422, q1422, S1422, M1422, H1422, Gf1422⟩ := id Av1417
  have hi1423 : ¬ ((0 : Int32) < 0 ∨ cl1422.slots.size ≤ ((0 : Int32)).toNatClampNeg) := (inb_of S1422 ⟨by decide, by decide⟩)
  have G1424 : Go p e below A0 (T1417.setTop (mkF m 26 #[.val (.ref a), .val .null, .val (.ref vb1417), .val (.int 2), .val (.int 0), .val (.ref dp)] [(.ref dp)])) := fun tq kq => G1421 tq (by
    refine X1417.aaload hx (j := (0 : Int32)) (v := (.ref dp)) Ar1422.1 (State.isArrayOf_alike hZ.alike Ar1422.2.1) rfl Ar1422.2.2 hi1423 (H1422.at hi1423 rfl) (g := (mkF m 21 #[.val (.ref a), .val .null, .val (.ref vb1417), .val (.int 2), .val (.int 0), .unset] [(.int 0), (.ref vb1417)])) rfl rfl (hb hby d16_21) _ ?_
    show Steps p.tables e below (T1417.setTop (mkF m 22 #[.val (.ref a), .val .null, .val (.ref vb1417), .val (.int 2), .val (.int 0), .unset] [(.ref dp)])) _
    refine XS.astore X1417.here hx rfl (hb hby d16_22) rfl rfl (l' := #[.val (.ref a), .val .null, .val (.ref vb1417), .val (.int 2), .val (.int 0), .val (.ref dp)]) rfl ?_
    refine XS.aload X1417.here hx rfl (hb hby d16_24) rfl rfl ?_
    exact kq)
  have f1425 := (F1.keep K1417 nin0)
  obtain ⟨T1426, X1426, e1426, st1426⟩ := getF X1417 hx hZ hown (host := "") (Or.inl (wd hw 94 rfl)) Via.refl rfl f1425 (g := (mkF m 26 #[.val (.ref a), .val .null, .val (.ref vb1417), .val (.int 2), .val (.int 0), .val (.ref dp)] [(.ref dp)])) rfl rfl (hb hby d16_26)
  have G1427 : Go p e below A0 (T1426.setTop (mkF m 29 #[.val (.ref a), .val .null, .val (.ref vb1417), .val (.int 2), .val (.int 0), .val (.ref dp)] [(.ref dw)])) := fun tq kq => G1424 tq (st1426 _ kq)
  have G1428 : Go p e below A0 (T1426.setTop (mkF m 30 #[.val (.ref a), .val .null, .val (.ref vb1417), .val (.int 2), .val (.int 0), .val (.ref dp)] [(.ref a), (.ref dw)])) := fun tq kq => G1427 tq (by
    refine XS.aloadN X1426.here hx rfl (hb hby d16_29) rfl rfl ?_
    exact kq)
  have f1430 := (E1.keep K1417)
  have f1431 := (Fv1.keep K1417 nin0)
  have f1432 := (Fc1.keep K1417 nin0)
  have f1433 := (A1.keep K1417 nin0)
  have f1434 := (E.keep K1417)
  have f1435 := (Fv.keep K1417 nin0)
  have f1436 := (Fc.keep K1417 nin0)
  have f1437 := (Ab.keep K1417 nin0)
  have f1438 := (Nat.le_trans Z0 K1417.1)
  have f1439 := (hold.keep K1417 all0)
  obtain ⟨cq1429, kq1429, q1429a, q1429b, q1429c⟩ := isOf hZ e1426 f1430
  obtain ⟨_, _, ⟨T1429, L1429, k1429, n1429⟩, -, X1429, ⟨Lc1429, hQ1429, l1429, y1429, z1429⟩, st1429⟩ := X1426.virtualBack hx (y := (⟨"java/lang/String", "equals", "(Ljava/lang/Object;)Z"⟩ : MethodName)) (z := (⟨"java/lang/String", "equals", "(Ljava/lang/Object;)Z"⟩ : MethodName)) hown (mvT hZ (wd hw 96 rfl)) (mvT hZ (wd hw 97 rfl)) (notFace_of_selects (args := #[]) (mvT hZ (wd hw 99 rfl))) (mvT hZ (wd hw 99 rfl)) (mvT hZ (wd hw 98 rfl)) (by decide) (backOf (W := 0) (rmEqX l Z a0 hw [] dw a db b kd kb _ _ (9 : Int32) (11 : Int32) cs fo T1417.heap n0 f1438 f1430 f1431 f1432 f1434 f1435 f1436 f1433 f1437 (by decide) (hold.ne hWd.1.lt ga) hCS hcs hSF hfo f1439) hZ (wd hw 100 rfl) (wd hw 2 rfl) (by decide) (by decide)) q1429a q1429c (g := (mkF m 30 #[.val (.ref a), .val .null, .val (.ref vb1417), .val (.int 2), .val (.int 0), .val (.ref dp)] [(.ref a), (.ref dw)])) rfl (by rw [hml]; rfl) (Steps.refl _) (argsL := [(.ref a)]) (rest := []) (lenOf pd_18 rfl) rfl (by show 2 * 0 + _ ≤ _; exact Nat.le_of_eq rfl) (hb hby d16_30) (fun _ _ => ⟨rfl, e1426, (by decide : 1 + 0 ≤ _), (by decide : 2 + 0 ≤ _)⟩)
  dsimp only [Pt.U, Pt.locs, Pt.cells, Pt.slots] at X1429 l1429 y1429 z1429 st1429 hQ1429
  obtain rfl : k1429 = 1 := y1429
  obtain rfl : n1429 = 2 := z1429
  obtain ⟨rfl, N1429q, e1429⟩ := hQ1429
  have N1429 : Fr n0 L1429 := by rw [l1429]; exact Fr.app N1417 N1429q
  have G1440 : Go p e below A0 (T1429.setTop (mkF m 33 #[.val (.ref a), .val .null, .val (.ref vb1417), .val (.int 2), .val (.int 0), .val (.ref dp)] [(.int 0)])) := fun tq kq => G1428 tq (st1429.trans kq)
  have G1441 : Go p e below A0 (T1429.setTop (mkF m 21 #[.val (.ref a), .val .null, .val (.ref vb1417), .val (.int 2), .val (.int 1), .val (.ref dp)] [(.int 1), (.ref vb1417)])) := fun tq kq => G1440 tq (by
    refine XS.ifYes X1429.here hx rfl (pc0 := 33) (pc' := 39) rfl (hb hby d16_33) rfl (by decide) (by decide) (by decide) ?_
    refine XS.iinc X1429.here hx rfl (hb hby d16_39) rfl (l' := #[.val (.ref a), .val .null, .val (.ref vb1417), .val (.int 2), .val (.int ((0 : Int32) + (1 : Int32))), .val (.ref dp)]) rfl ?_
    show Steps p.tables e below (T1429.setTop (mkF m 42 #[.val (.ref a), .val .null, .val (.ref vb1417), .val (.int 2), .val (.int ((0 : Int32) + (1 : Int32))), .val (.ref dp)] [])) _
    rw [show ((0 : Int32) + (1 : Int32)) = (1 : Int32) from (by decide : ((0 : Int32) + (1 : Int32)) = (1 : Int32))]
    show Steps p.tables e below (T1429.setTop (mkF m 42 #[.val (.ref a), .val .null, .val (.ref vb1417), .val (.int 2), .val (.int 1), .val (.ref dp)] [])) _
    refine XS.goto X1429.here hx rfl (pc0 := 42) (pc' := 12) rfl (hb hby d16_42) (by decide) (by decide) ?_
    refine XS.iload X1429.here hx rfl (hb hby d16_12) rfl ?_
    refine XS.iloadN X1429.here hx rfl (hb hby d16_14) rfl ?_
    refine XS.icmpNo X1429.here hx rfl (hb hby d16_15) rfl (by decide) ?_
    refine XS.aloadN X1429.here hx rfl (hb hby d16_18) rfl rfl ?_
    refine XS.iload X1429.here hx rfl (hb hby d16_19) rfl ?_
    exact kq)
  obtain ⟨cl1442, Ar1442, q1442, S1442, M1442, H1442, Gf1442⟩ := id Av1417
  have hi1443 : ¬ ((1 : Int32) < 0 ∨ cl1442.slots.size ≤ ((1 : Int32)).toNatClampNeg) := (inb_of S1442 ⟨by decide, by decide⟩)
  have G1444 : Go p e below A0 (T1429.setTop (mkF m 26 #[.val (.ref a), .val .null, .val (.ref vb1417), .val (.int 2), .val (.int 1), .val (.ref ip)] [(.ref ip)])) := fun tq kq => G1441 tq (by
    refine X1429.aaload hx (j := (1 : Int32)) (v := (.ref ip)) (by rw [e1429]; exact Ar1442.1) (State.isArrayOf_alike hZ.alike Ar1442.2.1) rfl Ar1442.2.2 hi1443 (H1442.at hi1443 rfl) (g := (mkF m 21 #[.val (.ref a), .val .null, .val (.ref vb1417), .val (.int 2), .val (.int 1), .val (.ref dp)] [(.int 1), (.ref vb1417)])) rfl rfl (hb hby d16_21) _ ?_
    show Steps p.tables e below (T1429.setTop (mkF m 22 #[.val (.ref a), .val .null, .val (.ref vb1417), .val (.int 2), .val (.int 1), .val (.ref dp)] [(.ref ip)])) _
    refine XS.astore X1429.here hx rfl (hb hby d16_22) rfl rfl (l' := #[.val (.ref a), .val .null, .val (.ref vb1417), .val (.int 2), .val (.int 1), .val (.ref ip)]) rfl ?_
    refine XS.aload X1429.here hx rfl (hb hby d16_24) rfl rfl ?_
    exact kq)
  have f1445 := (F2.keep K1417 nin0)
  obtain ⟨T1446, X1446, e1446, st1446⟩ := getF X1429 hx hZ hown (host := "") (Or.inl (wd hw 94 rfl)) Via.refl e1429 f1445 (g := (mkF m 26 #[.val (.ref a), .val .null, .val (.ref vb1417), .val (.int 2), .val (.int 1), .val (.ref ip)] [(.ref ip)])) rfl rfl (hb hby d16_26)
  have G1447 : Go p e below A0 (T1446.setTop (mkF m 29 #[.val (.ref a), .val .null, .val (.ref vb1417), .val (.int 2), .val (.int 1), .val (.ref ip)] [(.ref iw)])) := fun tq kq => G1444 tq (st1446 _ kq)
  have G1448 : Go p e below A0 (T1446.setTop (mkF m 30 #[.val (.ref a), .val .null, .val (.ref vb1417), .val (.int 2), .val (.int 1), .val (.ref ip)] [(.ref a), (.ref iw)])) := fun tq kq => G1447 tq (by
    refine XS.aloadN X1446.here hx rfl (hb hby d16_29) rfl rfl ?_
    exact kq)
  have f1450 := (E2.keep K1417)
  have f1451 := (Fv2.keep K1417 nin0)
  have f1452 := (Fc2.keep K1417 nin0)
  have f1453 := (A2.keep K1417 nin0)
  obtain ⟨cq1449, kq1449, q1449a, q1449b, q1449c⟩ := isOf hZ e1446 f1450
  obtain ⟨_, _, ⟨T1449, L1449, k1449, n1449⟩, -, X1449, ⟨Lc1449, hQ1449, l1449, y1449, z1449⟩, st1449⟩ := X1446.virtualBack hx (y := (⟨"java/lang/String", "equals", "(Ljava/lang/Object;)Z"⟩ : MethodName)) (z := (⟨"java/lang/String", "equals", "(Ljava/lang/Object;)Z"⟩ : MethodName)) hown (mvT hZ (wd hw 96 rfl)) (mvT hZ (wd hw 97 rfl)) (notFace_of_selects (args := #[]) (mvT hZ (wd hw 99 rfl))) (mvT hZ (wd hw 99 rfl)) (mvT hZ (wd hw 98 rfl)) (by decide) (backOf (W := 0) (rmEq11 l Z a0 hw [] iw a ib b ki kb (own_t t_I) cf cs fo T1417.heap n0 f1438 f1450 f1451 f1452 f1434 f1435 f1436 f1453 f1437 (hold.ne hWi.1.lt ga) hCS hcs hSF hfo f1439) hZ (wd hw 100 rfl) (wd hw 2 rfl) (by decide) (by decide)) q1449a q1449c (g := (mkF m 30 #[.val (.ref a), .val .null, .val (.ref vb1417), .val (.int 2), .val (.int 1), .val (.ref ip)] [(.ref a), (.ref iw)])) rfl (by rw [hml]; rfl) (Steps.refl _) (argsL := [(.ref a)]) (rest := []) (lenOf pd_18 rfl) rfl (by show 2 * 0 + _ ≤ _; exact Nat.le_of_eq rfl) (hb hby d16_30) (fun _ _ => ⟨rfl, e1446, (by decide : 1 + 0 ≤ _), (by decide : 2 + 0 ≤ _)⟩)
  dsimp only [Pt.U, Pt.locs, Pt.cells, Pt.slots] at X1449 l1449 y1449 z1449 st1449 hQ1449
  obtain rfl : k1449 = 1 := y1449
  obtain rfl : n1449 = 2 := z1449
  obtain ⟨rfl, N1449q, e1449⟩ := hQ1449
  have N1449 : Fr n0 L1449 := by rw [l1449]; exact Fr.app N1429 N1449q
  have G1454 : Go p e below A0 (T1449.setTop (mkF m 33 #[.val (.ref a), .val .null, .val (.ref vb1417), .val (.int 2), .val (.int 1), .val (.ref ip)] [(.int (own_b (own_eqf 11 (own_t t_I) cf)))])) := fun tq kq => G1448 tq (st1449.trans kq)
  have G1455 : Go p e below A0 (T1449.setTop (mkF m 46 #[.val (.ref a), .val .null, .val (.ref vb1417), .val (.int 2), .val (.int 2), .val (.ref ip)] [.null])) := fun tq kq => G1454 tq (by
    refine XS.ifYes X1449.here hx rfl (pc0 := 33) (pc' := 39) rfl (hb hby d16_33) rfl ((if0 _ _).trans (teq (own_b0 hPq)).1) (by decide) (by decide) ?_
    refine XS.iinc X1449.here hx rfl (hb hby d16_39) rfl (l' := #[.val (.ref a), .val .null, .val (.ref vb1417), .val (.int 2), .val (.int ((1 : Int32) + (1 : Int32))), .val (.ref ip)]) rfl ?_
    show Steps p.tables e below (T1449.setTop (mkF m 42 #[.val (.ref a), .val .null, .val (.ref vb1417), .val (.int 2), .val (.int ((1 : Int32) + (1 : Int32))), .val (.ref ip)] [])) _
    rw [show ((1 : Int32) + (1 : Int32)) = (2 : Int32) from (by decide : ((1 : Int32) + (1 : Int32)) = (2 : Int32))]
    show Steps p.tables e below (T1449.setTop (mkF m 42 #[.val (.ref a), .val .null, .val (.ref vb1417), .val (.int 2), .val (.int 2), .val (.ref ip)] [])) _
    refine XS.goto X1449.here hx rfl (pc0 := 42) (pc' := 12) rfl (hb hby d16_42) (by decide) (by decide) ?_
    refine XS.iload X1449.here hx rfl (hb hby d16_12) rfl ?_
    refine XS.iloadN X1449.here hx rfl (hb hby d16_14) rfl ?_
    refine XS.icmpYes X1449.here hx rfl (pc0 := 15) (pc' := 45) rfl (hb hby d16_15) rfl (by decide) (by decide) (by decide) ?_
    refine XS.aloadN X1449.here hx rfl (hb hby d16_45) rfl rfl ?_
    exact kq)
  obtain ⟨fs, hr, hrun, hended, hW, hsame⟩ := X1449.leave (v := some .null) (fun h => by rw [Bd.returns] at h; cases h)
  refine ⟨_, _, (by rw [← hA0]; exact G1455 _ (retOut X1449 hx (t := (.object "com/example/role_delegation/roledelegation/RevocationKind")) Bd.returns rfl (Or.inr (Or.inr (Or.inr (Or.inr ⟨rfl, rfl, rfl⟩)))) (hb hby d16_46) hr)), hrun, hended, _, _, rfl, ?_, ⟨_, rfl⟩, hW, hsame.mono (by decide) (by decide)⟩
  show Qnm .null h0 n0 _ T1449.heap _
  rw [e1449]
  exact ⟨rfl, N1449, ((Keep.refl h0 []).trans K1417 all0)⟩
def Q0c (n0 : Nat) (v : Option Value) (L : List Loc) : Prop := v = some (.int 1) ∧ Fr n0 L
set_option maxRecDepth 65536 in
set_option maxHeartbeats 40000000 in
theorem rm0 (l : Launch) (Z : State) (a0 : Array Value) (hw : ∀ d ∈ tables_1, d.before a0 Z = true) (ws : List Jvm.Cond) (p0 p1 p2 : Int32) (va : Addr) (kv : ClassId) (dp ip : Addr) (dw db iw ib : Addr) (kd ki : ClassId) (cs : Int32) (fo : Value) (h0 : Heap) (n0 : Nat) (Z0 : n0 ≤ h0.size) (hVS : Sta Z Z.heap "com/example/role_delegation/roledelegation/RevocationKind" "$VALUES" "[Lcom/example/role_delegation/roledelegation/RevocationKind;" (.ref va)) (hEV : Exa Z Z.heap va "[Lcom/example/role_delegation/roledelegation/RevocationKind;") (hAV : Arv Z Z.heap va kv (.object "com/example/role_delegation/roledelegation/RevocationKind") (2 : Int32) [.ref dp, .ref ip] .null) (hWd : Wd Z Z.heap dp dw db kd (9 : Int32) t_D) (hWi : Wd Z Z.heap ip iw ib ki (11 : Int32) t_I) (hDS : Sta Z Z.heap "com/example/role_delegation/roledelegation/RevocationKind" "DEPENDENT" "Lcom/example/role_delegation/roledelegation/RevocationKind;" (.ref dp)) (hIS : Sta Z Z.heap "com/example/role_delegation/roledelegation/RevocationKind" "INDEPENDENT" "Lcom/example/role_delegation/roledelegation/RevocationKind;" (.ref ip)) (hCS : Sta Z Z.heap "java/lang/String" "COMPACT_STRINGS" "Z" (.int cs)) (hcs : ¬ cs = (0 : Int32)) (hSF : Sta Z Z.heap "jdk/internal/util/Preconditions" "SIOOBE_FORMATTER" "Ljava/util/function/BiFunction;" fo) (hfo : fo.isRef = true) (hold : Old Z n0 h0) :
    MetFree l x (head1 (Jvm.Cond.code x code maxLocals ret :: ws) room_1) (fun aa UU => aa = #[(.int p0), (.int p1), (.int p2)] ∧ Z.Warmed39 UU.vm ∧ UU.heap = h0 ∧ CHv Z consts_1 UU.vm h0) (fun _ _ _ _ _ => True) (fun _ UU oo U' => ∃ v L, oo = .returned v ∧ Q0c n0 v L ∧ ReturnedEndW UU oo U' L room_1.cells room_1.slots) := by
  refine MetFree.of_bodySF (plainFor_of_name pn_3) hisR ?_
  intro p e s m args below meth c s₁ Bd hml0 hP hK
  obtain ⟨rfl, hZ, hh, hCH⟩ := hP
  have hx := Bd.exec
  have hby := Bd.bytes
  have hml : c.maxLocals = 9 := hml0
  have hown : s.vm.findClass "com/example/role_delegation/roledelegation/RevocationKindNamedPinLaw" = some m.cls := findClass_of_methodNamed Bd.named
  have hnm := (name_of_methodNamed Bd.named Bd.method).1
  have X0 : Stand p l e room_1 s m #[(.int p0), (.int p1), (.int p2)] below meth c s₁ [] 0 0 := Stand.of_body Bd
  have e0 : s₁.heap = h0 := by rw [← hh, Bd.state]; rfl
  have N0 := Fr.nil n0
  obtain ⟨A0, hA0⟩ : ∃ A, A = s₁.setTop (entryFrame m #[(.int p0), (.int p1), (.int p2)] maxLocals) := ⟨_, rfl⟩
  have G0 : Go p e below A0 (s₁.setTop (mkF m 0 #[.val (.int p0), .val (.int p1), .val (.int p2), .unset, .unset, .unset, .unset, .unset, .unset] [])) := fun tq kq => by rw [hA0]; exact castTop (ef_rm0 m p0 p1 p2) kq
  have hS : s.Since s.vm 0 := (State.WarmedH.refl s).since 0
  have hstr : ∀ d ∈ Bundle.stringAtoms, d.before a0 Z = true := fun d hd => hw d ((by decide +kernel : ∀ d ∈ Bundle.stringAtoms, d ∈ tables_1) d hd)
  have hEL : EW Z a0 consts_1 := (EW.cons (text := "dependent") (wd hw 1 rfl) (by decide) (EW.cons (text := "independent") (wd hw 105 rfl) (by decide) (EW.cons (text := "ndependent") (wd hw 120 rfl) (by decide) (EW.cons (text := "") (wd hw 112 rfl) (by decide) EW.nil))))
  obtain ⟨rr, err⟩ : ∃ q, q = (p2 &&& (255 : Int32)).toUInt32.toUInt16.toUInt32.toInt32 := ⟨_, rfl⟩
  have lrr := own_rL err
  obtain ⟨qq, eqq⟩ : ∃ q, q = (p1 &&& (2147483647 : Int32)) := ⟨_, rfl⟩
  obtain ⟨ps9, eps9⟩ : ∃ q, q = (qq % (9 : Int32)) := ⟨_, rfl⟩
  have hps9 := own_pos eqq eps9 (d := 9) (by decide) (by decide)
  obtain ⟨ps10, eps10⟩ : ∃ q, q = (qq % (10 : Int32)) := ⟨_, rfl⟩
  have hps10 := own_pos eqq eps10 (d := 10) (by decide) (by decide)
  obtain ⟨ps11, eps11⟩ : ∃ q, q = (qq % (11 : Int32)) := ⟨_, rfl⟩
  have hps11 := own_pos eqq eps11 (d := 11) (by decide) (by decide)
  obtain ⟨ps12, eps12⟩ : ∃ q, q = (qq % (12 : Int32)) := ⟨_, rfl⟩
  have hps12 := own_pos eqq eps12 (d := 12) (by decide) (by decide)
  obtain ⟨ps13, eps13⟩ : ∃ q, q = (qq % (13 : Int32)) := ⟨_, rfl⟩
  have hps13 := own_pos eqq eps13 (d := 13) (by decide) (by decide)
  have G1456 : Go p e below A0 (s₁.setTop (mkF m 24 #[.val (.int p0), .val (.int p1), .val (.int p2), .val (.int rr), .val (.int qq), .val (.int (p0 &&& (7 : Int32))), .unset, .val .null, .unset] [(.int (p0 &&& (7 : Int32)))])) := fun tq kq => G0 tq (by
    refine XS.iloadN X0.here hx rfl (hb hby at_0) rfl ?_
    refine XS.sipush X0.here hx rfl (hb hby at_1) ?_
    refine XS.iand X0.here hx rfl (hb hby at_4) rfl ?_
    refine XS.i2c X0.here hx rfl (hb hby at_5) rfl ?_
    show Steps p.tables e below (s₁.setTop (mkF m 6 #[.val (.int p0), .val (.int p1), .val (.int p2), .unset, .unset, .unset, .unset, .unset, .unset] [(.int (p2 &&& (255 : Int32)).toUInt32.toUInt16.toUInt32.toInt32)])) _
    rw [show (p2 &&& (255 : Int32)).toUInt32.toUInt16.toUInt32.toInt32 = rr from err.symm]
    show Steps p.tables e below (s₁.setTop (mkF m 6 #[.val (.int p0), .val (.int p1), .val (.int p2), .unset, .unset, .unset, .unset, .unset, .unset] [(.int rr)])) _
    refine XS.istoreN X0.here hx rfl (hb hby at_6) rfl (l' := #[.val (.int p0), .val (.int p1), .val (.int p2), .val (.int rr), .unset, .unset, .unset, .unset, .unset]) rfl ?_
    refine XS.iloadN X0.here hx rfl (hb hby at_7) rfl ?_
    refine X0.ldcInt hx hown (mvT hZ (wd hw 0 rfl)) (g := (mkF m 8 #[.val (.int p0), .val (.int p1), .val (.int p2), .val (.int rr), .unset, .unset, .unset, .unset, .unset] [(.int p1)])) rfl (hb hby at_8) _ ?_
    refine XS.iand X0.here hx rfl (hb hby at_10) rfl ?_
    show Steps p.tables e below (s₁.setTop (mkF m 11 #[.val (.int p0), .val (.int p1), .val (.int p2), .val (.int rr), .unset, .unset, .unset, .unset, .unset] [(.int (p1 &&& (2147483647 : Int32)))])) _
    rw [show (p1 &&& (2147483647 : Int32)) = qq from eqq.symm]
    show Steps p.tables e below (s₁.setTop (mkF m 11 #[.val (.int p0), .val (.int p1), .val (.int p2), .val (.int rr), .unset, .unset, .unset, .unset, .unset] [(.int qq)])) _
    refine XS.istore X0.here hx rfl (hb hby at_11) rfl (l' := #[.val (.int p0), .val (.int p1), .val (.int p2), .val (.int rr), .val (.int qq), .unset, .unset, .unset, .unset]) rfl ?_
    refine XS.iloadN X0.here hx rfl (hb hby at_13) rfl ?_
    refine XS.bipush X0.here hx rfl (hb hby at_14) ?_
    refine XS.iand X0.here hx rfl (hb hby at_16) rfl ?_
    refine XS.istore X0.here hx rfl (hb hby at_17) rfl (l' := #[.val (.int p0), .val (.int p1), .val (.int p2), .val (.int rr), .val (.int qq), .val (.int (p0 &&& (7 : Int32))), .unset, .unset, .unset]) rfl ?_
    refine XS.aconstNull X0.here hx rfl (hb hby at_19) ?_
    refine XS.astore X0.here hx rfl (hb hby at_20) rfl rfl (l' := #[.val (.int p0), .val (.int p1), .val (.int p2), .val (.int rr), .val (.int qq), .val (.int (p0 &&& (7 : Int32))), .unset, .val .null, .unset]) rfl ?_
    refine XS.iload X0.here hx rfl (hb hby at_22) rfl ?_
    exact kq)
  by_cases hc1457 : (p0 &&& (7 : Int32)) = (0 : Int32)
  · have G1458 : Go p e below A0 (s₁.setTop (mkF m 34 #[.val (.int p0), .val (.int p1), .val (.int p2), .val (.int rr), .val (.int qq), .val (.int (p0 &&& (7 : Int32))), .unset, .val .null, .val (.int ps10)] [])) := fun tq kq => G1456 tq (by
      refine XS.ifNo X0.here hx rfl (hb hby at_24) rfl ((if0 _ _).trans (teq hc1457).2) ?_
      refine XS.iload X0.here hx rfl (hb hby at_27) rfl ?_
      refine XS.bipush X0.here hx rfl (hb hby at_29) ?_
      refine iremM X0 hx rfl (hb hby at_31) rfl (by decide) ?_
      show Steps p.tables e below (s₁.setTop (mkF m 32 #[.val (.int p0), .val (.int p1), .val (.int p2), .val (.int rr), .val (.int qq), .val (.int (p0 &&& (7 : Int32))), .unset, .val .null, .unset] [(.int (qq % (10 : Int32)))])) _
      rw [show (qq % (10 : Int32)) = ps10 from eps10.symm]
      show Steps p.tables e below (s₁.setTop (mkF m 32 #[.val (.int p0), .val (.int p1), .val (.int p2), .val (.int rr), .val (.int qq), .val (.int (p0 &&& (7 : Int32))), .unset, .val .null, .unset] [(.int ps10)])) _
      refine XS.istore X0.here hx rfl (hb hby at_32) rfl (l' := #[.val (.int p0), .val (.int p1), .val (.int p2), .val (.int rr), .val (.int qq), .val (.int (p0 &&& (7 : Int32))), .unset, .val .null, .val (.int ps10)]) rfl ?_
      exact kq)
    obtain ⟨a1459, T1459, h1459, k1459, b1459, kb1459, X1459, e1459, E1459, hS, hk1459, hZ, hown, Ea1459, Fc1459, Fv1459, Ab1459, -, -, CH1459, Lt1459, -, st1459⟩ := ldcCH (s := s) (vm0 := s.vm) X0 hx hZ hown (wd hw 1 rfl) hstr e0 hS (Nat.zero_le h0.size) hEL (List.mem_of_getElem? (i := 0) rfl) hCH (vs := [(.int 100), (.int 101), (.int 112), (.int 101), (.int 110), (.int 100), (.int 101), (.int 110), (.int 116)]) (z := (9 : Int32)) ⟨by decide, by decide⟩ (by decide) (by decide) (g := (mkF m 34 #[.val (.int p0), .val (.int p1), .val (.int p2), .val (.int rr), .val (.int qq), .val (.int (p0 &&& (7 : Int32))), .unset, .val .null, .val (.int ps10)] [])) rfl (hb hby at_34) (n := 36) (by decide) (by decide) (by decide) (by decide)
    have G1460 : Go p e below A0 (T1459.setTop (mkF m 36 #[.val (.int p0), .val (.int p1), .val (.int p2), .val (.int rr), .val (.int qq), .val (.int (p0 &&& (7 : Int32))), .unset, .val .null, .val (.int ps10)] [(.ref a1459)])) := fun tq kq => G1458 tq (st1459 _ kq)
    have G1461 : Go p e below A0 (T1459.setTop (mkF m 39 #[.val (.int p0), .val (.int p1), .val (.int p2), .val (.int rr), .val (.int qq), .val (.int (p0 &&& (7 : Int32))), .unset, .val .null, .val (.int ps10)] [(.int rr), (.int ps10), (.ref a1459)])) := fun tq kq => G1460 tq (by
      refine XS.iload X1459.here hx rfl (hb hby at_36) rfl ?_
      refine XS.iloadN X1459.here hx rfl (hb hby at_38) rfl ?_
      exact kq)
    have f1463 := (Nat.le_trans Z0 E1459.1)
    have f1464 := (hold.ext E1459)
    obtain ⟨_, _, ⟨T1462, L1462, k1462, n1462⟩, -, X1462, ⟨Lc1462, hQ1462, l1462, y1462, z1462⟩, st1462⟩ := Jvm.LawKit.callS X1459 hx (y := (⟨"com/example/role_delegation/roledelegation/RevocationKindNamedPinLaw", "w9", "(Ljava/lang/String;IC)Ljava/lang/String;"⟩ : MethodName)) hown (mvT hZ (wd hw 9 rfl)) (mvT hZ (wd hw 10 rfl)) (mvT hZ (wd hw 11 rfl)) (mvT hZ (wd hw 12 rfl)) (by decide) (backOf (W := 0) (rmW9 l Z a0 hw [] a1459 b1459 kb1459 (own_t t_D) (9 : Int32) ps10 rr cs fo h1459 n0 f1463 Ea1459 Fv1459 Fc1459 ((Af.of Ab1459).fn own_tvD) (own_tL t_D own_tlD) lrr hCS hcs hSF hfo f1464) hZ (wd hw 12 rfl) (wd hw 11 rfl) (by decide) (by decide)) (g := (mkF m 39 #[.val (.int p0), .val (.int p1), .val (.int p2), .val (.int rr), .val (.int qq), .val (.int (p0 &&& (7 : Int32))), .unset, .val .null, .val (.int ps10)] [(.int rr), (.int ps10), (.ref a1459)])) rfl (by rw [hml]; rfl) (argsL := [(.ref a1459), (.int ps10), (.int rr)]) (rest := []) (lenOf pd_19 rfl) rfl (by show 2 * 0 + _ ≤ _; exact Nat.le_of_eq rfl) (hb hby at_39) (fun _ _ => ⟨rfl, e1459, (by decide : 2 + 3 ≤ _), (by decide : 40 + 25 ≤ _)⟩)
    dsimp only [Pt.U, Pt.locs, Pt.cells, Pt.slots] at X1462 l1462 y1462 z1462 st1462 hQ1462
    obtain rfl : k1462 = 5 := y1462
    obtain rfl : n1462 = 65 := z1462
    obtain ⟨wa1462, wb1462, wk1462, rfl, N1462q, K1462, hg1462, Es1462, Fv1462, Fc1462, Ab1462⟩ := hQ1462
    have N1462 : Fr n0 L1462 := by rw [l1462]; exact Fr.app N0 N1462q
    have G1465 : Go p e below A0 (T1462.setTop (mkF m 42 #[.val (.int p0), .val (.int p1), .val (.int p2), .val (.int rr), .val (.int qq), .val (.int (p0 &&& (7 : Int32))), .unset, .val .null, .val (.int ps10)] [(.ref wa1462)])) := fun tq kq => G1461 tq (st1462 _ kq)
    have G1466 : Go p e below A0 (T1462.setTop (mkF m 48 #[.val (.int p0), .val (.int p1), .val (.int p2), .val (.int rr), .val (.int qq), .val (.int (p0 &&& (7 : Int32))), .val (.ref wa1462), .val .null, .val (.int ps10)] [(.int 9), (.int ps10)])) := fun tq kq => G1465 tq (by
      refine XS.astore X1462.here hx rfl (hb hby at_42) rfl rfl (l' := #[.val (.int p0), .val (.int p1), .val (.int p2), .val (.int rr), .val (.int qq), .val (.int (p0 &&& (7 : Int32))), .val (.ref wa1462), .val .null, .val (.int ps10)]) rfl ?_
      refine XS.iload X1462.here hx rfl (hb hby at_44) rfl ?_
      refine XS.bipush X1462.here hx rfl (hb hby at_46) ?_
      exact kq)
    by_cases hc1467 : ps10 = (9 : Int32)
    · have G1468 : Go p e below A0 (T1462.setTop (mkF m 62 #[.val (.int p0), .val (.int p1), .val (.int p2), .val (.int rr), .val (.int qq), .val (.int (p0 &&& (7 : Int32))), .val (.ref wa1462), .val .null, .val (.int ps10)] [])) := fun tq kq => G1466 tq (by
        refine XS.icmpYes X1462.here hx rfl (pc0 := 48) (pc' := 62) rfl (hb hby at_48) rfl (teq hc1467).1 (by decide) (by decide) ?_
        exact kq)
      obtain ⟨T1469, X1469, e1469, st1469⟩ := getS2 X1462 hx hZ hown (host := "") (Or.inl (wd hw 119 rfl)) Via.refl rfl (hDS.ext (f1464.keep K1462 all0).2) (g := (mkF m 62 #[.val (.int p0), .val (.int p1), .val (.int p2), .val (.int rr), .val (.int qq), .val (.int (p0 &&& (7 : Int32))), .val (.ref wa1462), .val .null, .val (.int ps10)] [])) rfl (hb hby at_62)
      have G1470 : Go p e below A0 (T1469.setTop (mkF m 65 #[.val (.int p0), .val (.int p1), .val (.int p2), .val (.int rr), .val (.int qq), .val (.int (p0 &&& (7 : Int32))), .val (.ref wa1462), .val .null, .val (.int ps10)] [(.ref dp)])) := fun tq kq => G1468 tq (st1469 _ kq)
      have G1471 : Go p e below A0 (T1469.setTop (mkF m 260 #[.val (.int p0), .val (.int p1), .val (.int p2), .val (.int rr), .val (.int qq), .val (.int (p0 &&& (7 : Int32))), .val (.ref wa1462), .val (.ref dp), .val (.int ps10)] [(.ref wa1462)])) := fun tq kq => G1470 tq (by
        refine XS.astore X1469.here hx rfl (hb hby at_65) rfl rfl (l' := #[.val (.int p0), .val (.int p1), .val (.int p2), .val (.int rr), .val (.int qq), .val (.int (p0 &&& (7 : Int32))), .val (.ref wa1462), .val (.ref dp), .val (.int ps10)]) rfl ?_
        refine XS.goto X1469.here hx rfl (pc0 := 67) (pc' := 258) rfl (hb hby at_67) (by decide) (by decide) ?_
        refine XS.aload X1469.here hx rfl (hb hby at_258) rfl rfl ?_
        exact kq)
      have f1473 := (Nat.le_trans f1463 K1462.1)
      have f1474 := (f1464.keep K1462 all0)
      obtain ⟨_, _, ⟨T1472, L1472, k1472, n1472⟩, -, X1472, ⟨Lc1472, hQ1472, l1472, y1472, z1472⟩, st1472⟩ := Jvm.LawKit.callS X1469 hx (y := (⟨"com/example/role_delegation/roledelegation/RevocationKind", "named", "(Ljava/lang/String;)Lcom/example/role_delegation/roledelegation/RevocationKind;"⟩ : MethodName)) hown (mvT hZ (wd hw 73 rfl)) (mvT hZ (wd hw 74 rfl)) (mvT hZ (wd hw 75 rfl)) (mvT hZ (wd hw 76 rfl)) (by decide) (backOf (W := 0) (rmN9T l Z a0 hw [] va kv dp ip dw db iw ib kd ki wa1462 wb1462 wk1462 (own_gw (own_t t_D) (9 : Int32) ps10 rr) cs fo T1462.heap n0 f1473 hVS hEV hAV hWd hWi Es1462 Fv1462 Fc1462 hg1462 Ab1462 (own_Pt (n := 9) (by decide) (by decide) hps10.1 (Or.inl hc1467)) hCS hcs hSF hfo f1474) hZ (wd hw 76 rfl) (wd hw 75 rfl) (by decide) (by decide)) (g := (mkF m 260 #[.val (.int p0), .val (.int p1), .val (.int p2), .val (.int rr), .val (.int qq), .val (.int (p0 &&& (7 : Int32))), .val (.ref wa1462), .val (.ref dp), .val (.int ps10)] [(.ref wa1462)])) rfl (by rw [hml]; rfl) (argsL := [(.ref wa1462)]) (rest := []) (lenOf pd_20 rfl) rfl (by show 2 * 0 + _ ≤ _; exact Nat.le_of_eq rfl) (hb hby at_260) (fun _ _ => ⟨rfl, e1469, (by decide : 5 + 1 ≤ _), (by decide : 65 + 2 ≤ _)⟩)
      dsimp only [Pt.U, Pt.locs, Pt.cells, Pt.slots] at X1472 l1472 y1472 z1472 st1472 hQ1472
      obtain rfl : k1472 = 6 := y1472
      obtain rfl : n1472 = 67 := z1472
      obtain ⟨rfl, N1472q, K1472⟩ := hQ1472
      have N1472 : Fr n0 L1472 := by rw [l1472]; exact Fr.app N1462 N1472q
      have G1475 : Go p e below A0 (T1472.setTop (mkF m 263 #[.val (.int p0), .val (.int p1), .val (.int p2), .val (.int rr), .val (.int qq), .val (.int (p0 &&& (7 : Int32))), .val (.ref wa1462), .val (.ref dp), .val (.int ps10)] [(.ref dp)])) := fun tq kq => G1471 tq (st1472 _ kq)
      have G1476 : Go p e below A0 (T1472.setTop (mkF m 273 #[.val (.int p0), .val (.int p1), .val (.int p2), .val (.int rr), .val (.int qq), .val (.int (p0 &&& (7 : Int32))), .val (.ref wa1462), .val (.ref dp), .val (.int ps10)] [(.int 1)])) := fun tq kq => G1475 tq (by
        refine XS.aload X1472.here hx rfl (hb hby at_263) rfl rfl ?_
        refine Jvm.RoadKit.acmp (g := (mkF m 265 #[.val (.int p0), .val (.int p1), .val (.int p2), .val (.int rr), .val (.int qq), .val (.int (p0 &&& (7 : Int32))), .val (.ref wa1462), .val (.ref dp), .val (.int ps10)] [(.ref dp), (.ref dp)])) X1472 hx rfl rfl rfl (pc0 := 265) (pc' := 268) (same := true) rfl (hb hby at_265) rfl (decide_eq_true rfl) (by decide) (by decide) ?_
        refine XS.iconst X1472.here hx rfl (hb hby at_268) ?_
        refine XS.goto X1472.here hx rfl (pc0 := 269) (pc' := 273) rfl (hb hby at_269) (by decide) (by decide) ?_
        exact kq)
      have f1477 := (Nat.le_trans (Nat.le_trans hk1459 K1462.1) K1472.1)
      obtain ⟨fs, hr, hrun, hended, hRW⟩ := X1472.leaveW (s := s) (vm₁ := T1459.vm) hS f1477 (v := some (.int (nar .boolean (1 : Int32)))) (fun h => by rw [Bd.returns] at h; cases h)
      refine ⟨_, _, (by rw [← hA0]; exact G1476 _ (retN X1472 hx (t := .boolean) Bd.returns (by simp) (hb hby at_273) hr)), hrun, hended, _, _, rfl, ?_, hRW.1, hRW.2.1, hRW.2.2.1, hRW.2.2.2.mono (by decide) (by decide)⟩
      exact ⟨rfl, N1472⟩
    · have G1478 : Go p e below A0 (T1462.setTop (mkF m 52 #[.val (.int p0), .val (.int p1), .val (.int p2), .val (.int rr), .val (.int qq), .val (.int (p0 &&& (7 : Int32))), .val (.ref wa1462), .val .null, .val (.int ps10)] [(.int rr)])) := fun tq kq => G1466 tq (by
        refine XS.icmpNo X1462.here hx rfl (hb hby at_48) rfl (feq hc1467).1 ?_
        refine XS.iloadN X1462.here hx rfl (hb hby at_51) rfl ?_
        exact kq)
      have G1480 : Go p e below A0 (T1462.setTop (mkF m 54 #[.val (.int p0), .val (.int p1), .val (.int p2), .val (.int rr), .val (.int qq), .val (.int (p0 &&& (7 : Int32))), .val (.ref wa1462), .val .null, .val (.int ps10)] [(.ref a1459), (.int rr)])) := fun tq kq => G1478 tq (ldcAgain (s := s) (vm0 := T1459.vm) X1462 hx hZ hown (wd hw 1 rfl) Lt1459 (g := (mkF m 52 #[.val (.int p0), .val (.int p1), .val (.int p2), .val (.int rr), .val (.int qq), .val (.int (p0 &&& (7 : Int32))), .val (.ref wa1462), .val .null, .val (.int ps10)] [(.int rr)])) rfl (hb hby at_52) _ kq)
      have G1481 : Go p e below A0 (T1462.setTop (mkF m 56 #[.val (.int p0), .val (.int p1), .val (.int p2), .val (.int rr), .val (.int qq), .val (.int (p0 &&& (7 : Int32))), .val (.ref wa1462), .val .null, .val (.int ps10)] [(.int ps10), (.ref a1459), (.int rr)])) := fun tq kq => G1480 tq (by
        refine XS.iload X1462.here hx rfl (hb hby at_54) rfl ?_
        exact kq)
      have f1483 := (Ea1459.keep K1462)
      have f1484 := (Fv1459.keep K1462 nin0)
      have f1485 := (Fc1459.keep K1462 nin0)
      have f1486 := (Ab1459.keep K1462 nin0)
      have f1487 := (Nat.le_trans f1463 K1462.1)
      have f1488 := (f1464.keep K1462 all0)
      obtain ⟨cq1482, kq1482, q1482a, q1482b, q1482c⟩ := isOf hZ rfl f1483
      obtain ⟨_, _, ⟨T1482, L1482, k1482, n1482⟩, -, X1482, ⟨Lc1482, hQ1482, l1482, y1482, z1482⟩, st1482⟩ := X1462.virtualBack hx (y := (⟨"java/lang/String", "charAt", "(I)C"⟩ : MethodName)) (z := (⟨"java/lang/String", "charAt", "(I)C"⟩ : MethodName)) hown (mvT hZ (wd hw 30 rfl)) (mvT hZ (wd hw 31 rfl)) (notFace_of_selects (args := #[]) (mvT hZ (wd hw 33 rfl))) (mvT hZ (wd hw 33 rfl)) (mvT hZ (wd hw 32 rfl)) (by decide) (backOf (W := 1) (rmCA l Z a0 hw [] a1459 b1459 kb1459 (own_t t_D) ps10 (9 : Int32) cs fo T1462.heap n0 f1487 f1483 f1484 f1485 ((Af.of f1486).fn own_tvD) (own_posI (n := 9) hps10.1 (by have := hps10.2; omega) (by decide) hc1467) (own_tL t_D own_tlD _) hCS hcs hSF hfo f1488) hZ (wd hw 34 rfl) (wd hw 2 rfl) (by decide) (by decide)) q1482a q1482c (g := (mkF m 56 #[.val (.int p0), .val (.int p1), .val (.int p2), .val (.int rr), .val (.int qq), .val (.int (p0 &&& (7 : Int32))), .val (.ref wa1462), .val .null, .val (.int ps10)] [(.int ps10), (.ref a1459), (.int rr)])) rfl (by rw [hml]; rfl) (Steps.refl _) (argsL := [(.int ps10)]) (rest := [(.int rr)]) (lenOf pd_6 rfl) rfl (by show 2 * 0 + _ ≤ _; exact Nat.le_of_eq rfl) (hb hby at_56) (fun _ _ => ⟨rfl, rfl, (by decide : 5 + 0 ≤ _), (by decide : 65 + 0 ≤ _)⟩)
      dsimp only [Pt.U, Pt.locs, Pt.cells, Pt.slots] at X1482 l1482 y1482 z1482 st1482 hQ1482
      obtain rfl : k1482 = 5 := y1482
      obtain rfl : n1482 = 65 := z1482
      obtain ⟨rfl, N1482q, e1482⟩ := hQ1482
      have N1482 : Fr n0 L1482 := by rw [l1482]; exact Fr.app N1462 N1482q
      have G1489 : Go p e below A0 (T1482.setTop (mkF m 59 #[.val (.int p0), .val (.int p1), .val (.int p2), .val (.int rr), .val (.int qq), .val (.int (p0 &&& (7 : Int32))), .val (.ref wa1462), .val .null, .val (.int ps10)] [(.int (own_t t_D (ps10).toNatClampNeg)), (.int rr)])) := fun tq kq => G1481 tq (st1482.trans kq)
      by_cases hc1490 : rr = (own_t t_D (ps10).toNatClampNeg)
      · have G1491 : Go p e below A0 (T1482.setTop (mkF m 62 #[.val (.int p0), .val (.int p1), .val (.int p2), .val (.int rr), .val (.int qq), .val (.int (p0 &&& (7 : Int32))), .val (.ref wa1462), .val .null, .val (.int ps10)] [])) := fun tq kq => G1489 tq (by
          refine XS.icmpNo X1482.here hx rfl (hb hby at_59) rfl (teq hc1490).2 ?_
          exact kq)
        obtain ⟨T1492, X1492, e1492, st1492⟩ := getS2 X1482 hx hZ hown (host := "") (Or.inl (wd hw 119 rfl)) Via.refl e1482 (hDS.ext f1488.2) (g := (mkF m 62 #[.val (.int p0), .val (.int p1), .val (.int p2), .val (.int rr), .val (.int qq), .val (.int (p0 &&& (7 : Int32))), .val (.ref wa1462), .val .null, .val (.int ps10)] [])) rfl (hb hby at_62)
        have G1493 : Go p e below A0 (T1492.setTop (mkF m 65 #[.val (.int p0), .val (.int p1), .val (.int p2), .val (.int rr), .val (.int qq), .val (.int (p0 &&& (7 : Int32))), .val (.ref wa1462), .val .null, .val (.int ps10)] [(.ref dp)])) := fun tq kq => G1491 tq (st1492 _ kq)
        have G1494 : Go p e below A0 (T1492.setTop (mkF m 260 #[.val (.int p0), .val (.int p1), .val (.int p2), .val (.int rr), .val (.int qq), .val (.int (p0 &&& (7 : Int32))), .val (.ref wa1462), .val (.ref dp), .val (.int ps10)] [(.ref wa1462)])) := fun tq kq => G1493 tq (by
          refine XS.astore X1492.here hx rfl (hb hby at_65) rfl rfl (l' := #[.val (.int p0), .val (.int p1), .val (.int p2), .val (.int rr), .val (.int qq), .val (.int (p0 &&& (7 : Int32))), .val (.ref wa1462), .val (.ref dp), .val (.int ps10)]) rfl ?_
          refine XS.goto X1492.here hx rfl (pc0 := 67) (pc' := 258) rfl (hb hby at_67) (by decide) (by decide) ?_
          refine XS.aload X1492.here hx rfl (hb hby at_258) rfl rfl ?_
          exact kq)
        obtain ⟨_, _, ⟨T1495, L1495, k1495, n1495⟩, -, X1495, ⟨Lc1495, hQ1495, l1495, y1495, z1495⟩, st1495⟩ := Jvm.LawKit.callS X1492 hx (y := (⟨"com/example/role_delegation/roledelegation/RevocationKind", "named", "(Ljava/lang/String;)Lcom/example/role_delegation/roledelegation/RevocationKind;"⟩ : MethodName)) hown (mvT hZ (wd hw 73 rfl)) (mvT hZ (wd hw 74 rfl)) (mvT hZ (wd hw 75 rfl)) (mvT hZ (wd hw 76 rfl)) (by decide) (backOf (W := 0) (rmN9T l Z a0 hw [] va kv dp ip dw db iw ib kd ki wa1462 wb1462 wk1462 (own_gw (own_t t_D) (9 : Int32) ps10 rr) cs fo T1462.heap n0 f1487 hVS hEV hAV hWd hWi Es1462 Fv1462 Fc1462 hg1462 Ab1462 (own_Pt (n := 9) (by decide) (by decide) hps10.1 (Or.inr hc1490)) hCS hcs hSF hfo f1488) hZ (wd hw 76 rfl) (wd hw 75 rfl) (by decide) (by decide)) (g := (mkF m 260 #[.val (.int p0), .val (.int p1), .val (.int p2), .val (.int rr), .val (.int qq), .val (.int (p0 &&& (7 : Int32))), .val (.ref wa1462), .val (.ref dp), .val (.int ps10)] [(.ref wa1462)])) rfl (by rw [hml]; rfl) (argsL := [(.ref wa1462)]) (rest := []) (lenOf pd_20 rfl) rfl (by show 2 * 0 + _ ≤ _; exact Nat.le_of_eq rfl) (hb hby at_260) (fun _ _ => ⟨rfl, e1492, (by decide : 5 + 1 ≤ _), (by decide : 65 + 2 ≤ _)⟩)
        dsimp only [Pt.U, Pt.locs, Pt.cells, Pt.slots] at X1495 l1495 y1495 z1495 st1495 hQ1495
        obtain rfl : k1495 = 6 := y1495
        obtain rfl : n1495 = 67 := z1495
        obtain ⟨rfl, N1495q, K1495⟩ := hQ1495
        have N1495 : Fr n0 L1495 := by rw [l1495]; exact Fr.app N1482 N1495q
        have G1496 : Go p e below A0 (T1495.setTop (mkF m 263 #[.val (.int p0), .val (.int p1), .val (.int p2), .val (.int rr), .val (.int qq), .val (.int (p0 &&& (7 : Int32))), .val (.ref wa1462), .val (.ref dp), .val (.int ps10)] [(.ref dp)])) := fun tq kq => G1494 tq (st1495 _ kq)
        have G1497 : Go p e below A0 (T1495.setTop (mkF m 273 #[.val (.int p0), .val (.int p1), .val (.int p2), .val (.int rr), .val (.int qq), .val (.int (p0 &&& (7 : Int32))), .val (.ref wa1462), .val (.ref dp), .val (.int ps10)] [(.int 1)])) := fun tq kq => G1496 tq (by
          refine XS.aload X1495.here hx rfl (hb hby at_263) rfl rfl ?_
          refine Jvm.RoadKit.acmp (g := (mkF m 265 #[.val (.int p0), .val (.int p1), .val (.int p2), .val (.int rr), .val (.int qq), .val (.int (p0 &&& (7 : Int32))), .val (.ref wa1462), .val (.ref dp), .val (.int ps10)] [(.ref dp), (.ref dp)])) X1495 hx rfl rfl rfl (pc0 := 265) (pc' := 268) (same := true) rfl (hb hby at_265) rfl (decide_eq_true rfl) (by decide) (by decide) ?_
          refine XS.iconst X1495.here hx rfl (hb hby at_268) ?_
          refine XS.goto X1495.here hx rfl (pc0 := 269) (pc' := 273) rfl (hb hby at_269) (by decide) (by decide) ?_
          exact kq)
        have f1498 := (Nat.le_trans (Nat.le_trans hk1459 K1462.1) K1495.1)
        obtain ⟨fs, hr, hrun, hended, hRW⟩ := X1495.leaveW (s := s) (vm₁ := T1459.vm) hS f1498 (v := some (.int (nar .boolean (1 : Int32)))) (fun h => by rw [Bd.returns] at h; cases h)
        refine ⟨_, _, (by rw [← hA0]; exact G1497 _ (retN X1495 hx (t := .boolean) Bd.returns (by simp) (hb hby at_273) hr)), hrun, hended, _, _, rfl, ?_, hRW.1, hRW.2.1, hRW.2.2.1, hRW.2.2.2.mono (by decide) (by decide)⟩
        exact ⟨rfl, N1495⟩
      · have G1499 : Go p e below A0 (T1482.setTop (mkF m 260 #[.val (.int p0), .val (.int p1), .val (.int p2), .val (.int rr), .val (.int qq), .val (.int (p0 &&& (7 : Int32))), .val (.ref wa1462), .val .null, .val (.int ps10)] [(.ref wa1462)])) := fun tq kq => G1489 tq (by
          refine XS.icmpYes X1482.here hx rfl (pc0 := 59) (pc' := 67) rfl (hb hby at_59) rfl (feq hc1490).2 (by decide) (by decide) ?_
          refine XS.goto X1482.here hx rfl (pc0 := 67) (pc' := 258) rfl (hb hby at_67) (by decide) (by decide) ?_
          refine XS.aload X1482.here hx rfl (hb hby at_258) rfl rfl ?_
          exact kq)
        obtain ⟨_, _, ⟨T1500, L1500, k1500, n1500⟩, -, X1500, ⟨Lc1500, hQ1500, l1500, y1500, z1500⟩, st1500⟩ := Jvm.LawKit.callS X1482 hx (y := (⟨"com/example/role_delegation/roledelegation/RevocationKind", "named", "(Ljava/lang/String;)Lcom/example/role_delegation/roledelegation/RevocationKind;"⟩ : MethodName)) hown (mvT hZ (wd hw 73 rfl)) (mvT hZ (wd hw 74 rfl)) (mvT hZ (wd hw 75 rfl)) (mvT hZ (wd hw 76 rfl)) (by decide) (backOf (W := 0) (rmN9F l Z a0 hw [] va kv dp ip dw db iw ib kd ki wa1462 wb1462 wk1462 (own_gw (own_t t_D) (9 : Int32) ps10 rr) cs fo T1462.heap n0 f1487 hVS hEV hAV hWd hWi Es1462 Fv1462 Fc1462 hg1462 Ab1462 (own_Pf (n := 9) (by decide) (by decide) hps10.1 (by have := hps10.2; omega) own_tlD lrr hc1467 hc1490) hCS hcs hSF hfo f1488) hZ (wd hw 76 rfl) (wd hw 75 rfl) (by decide) (by decide)) (g := (mkF m 260 #[.val (.int p0), .val (.int p1), .val (.int p2), .val (.int rr), .val (.int qq), .val (.int (p0 &&& (7 : Int32))), .val (.ref wa1462), .val .null, .val (.int ps10)] [(.ref wa1462)])) rfl (by rw [hml]; rfl) (argsL := [(.ref wa1462)]) (rest := []) (lenOf pd_20 rfl) rfl (by show 2 * 0 + _ ≤ _; exact Nat.le_of_eq rfl) (hb hby at_260) (fun _ _ => ⟨rfl, e1482, (by decide : 5 + 1 ≤ _), (by decide : 65 + 2 ≤ _)⟩)
        dsimp only [Pt.U, Pt.locs, Pt.cells, Pt.slots] at X1500 l1500 y1500 z1500 st1500 hQ1500
        obtain rfl : k1500 = 6 := y1500
        obtain rfl : n1500 = 67 := z1500
        obtain ⟨rfl, N1500q, K1500⟩ := hQ1500
        have N1500 : Fr n0 L1500 := by rw [l1500]; exact Fr.app N1482 N1500q
        have G1501 : Go p e below A0 (T1500.setTop (mkF m 263 #[.val (.int p0), .val (.int p1), .val (.int p2), .val (.int rr), .val (.int qq), .val (.int (p0 &&& (7 : Int32))), .val (.ref wa1462), .val .null, .val (.int ps10)] [.null])) := fun tq kq => G1499 tq (st1500 _ kq)
        have G1502 : Go p e below A0 (T1500.setTop (mkF m 273 #[.val (.int p0), .val (.int p1), .val (.int p2), .val (.int rr), .val (.int qq), .val (.int (p0 &&& (7 : Int32))), .val (.ref wa1462), .val .null, .val (.int ps10)] [(.int 1)])) := fun tq kq => G1501 tq (by
          refine XS.aload X1500.here hx rfl (hb hby at_263) rfl rfl ?_
          refine Jvm.RoadKit.acmp (g := (mkF m 265 #[.val (.int p0), .val (.int p1), .val (.int p2), .val (.int rr), .val (.int qq), .val (.int (p0 &&& (7 : Int32))), .val (.ref wa1462), .val .null, .val (.int ps10)] [.null, .null])) X1500 hx rfl rfl rfl (pc0 := 265) (pc' := 268) (same := true) rfl (hb hby at_265) rfl (decide_eq_true rfl) (by decide) (by decide) ?_
          refine XS.iconst X1500.here hx rfl (hb hby at_268) ?_
          refine XS.goto X1500.here hx rfl (pc0 := 269) (pc' := 273) rfl (hb hby at_269) (by decide) (by decide) ?_
          exact kq)
        have f1503 := (Nat.le_trans (Nat.le_trans hk1459 K1462.1) K1500.1)
        obtain ⟨fs, hr, hrun, hended, hRW⟩ := X1500.leaveW (s := s) (vm₁ := T1459.vm) hS f1503 (v := some (.int (nar .boolean (1 : Int32)))) (fun h => by rw [Bd.returns] at h; cases h)
        refine ⟨_, _, (by rw [← hA0]; exact G1502 _ (retN X1500 hx (t := .boolean) Bd.returns (by simp) (hb hby at_273) hr)), hrun, hended, _, _, rfl, ?_, hRW.1, hRW.2.1, hRW.2.2.1, hRW.2.2.2.mono (by decide) (by decide)⟩
        exact ⟨rfl, N1500⟩
  · have G1504 : Go p e below A0 (s₁.setTop (mkF m 73 #[.val (.int p0), .val (.int p1), .val (.int p2), .val (.int rr), .val (.int qq), .val (.int (p0 &&& (7 : Int32))), .unset, .val .null, .unset] [(.int 1), (.int (p0 &&& (7 : Int32)))])) := fun tq kq => G1456 tq (by
      refine XS.ifYes X0.here hx rfl (pc0 := 24) (pc' := 70) rfl (hb hby at_24) rfl ((if0 _ _).trans (feq hc1457).2) (by decide) (by decide) ?_
      refine XS.iload X0.here hx rfl (hb hby at_70) rfl ?_
      refine XS.iconst X0.here hx rfl (hb hby at_72) ?_
      exact kq)
    by_cases hc1505 : (p0 &&& (7 : Int32)) = (1 : Int32)
    · have G1506 : Go p e below A0 (s₁.setTop (mkF m 83 #[.val (.int p0), .val (.int p1), .val (.int p2), .val (.int rr), .val (.int qq), .val (.int (p0 &&& (7 : Int32))), .unset, .val .null, .val (.int ps12)] [])) := fun tq kq => G1504 tq (by
        refine XS.icmpNo X0.here hx rfl (hb hby at_73) rfl (teq hc1505).2 ?_
        refine XS.iload X0.here hx rfl (hb hby at_76) rfl ?_
        refine XS.bipush X0.here hx rfl (hb hby at_78) ?_
        refine iremM X0 hx rfl (hb hby at_80) rfl (by decide) ?_
        show Steps p.tables e below (s₁.setTop (mkF m 81 #[.val (.int p0), .val (.int p1), .val (.int p2), .val (.int rr), .val (.int qq), .val (.int (p0 &&& (7 : Int32))), .unset, .val .null, .unset] [(.int (qq % (12 : Int32)))])) _
        rw [show (qq % (12 : Int32)) = ps12 from eps12.symm]
        show Steps p.tables e below (s₁.setTop (mkF m 81 #[.val (.int p0), .val (.int p1), .val (.int p2), .val (.int rr), .val (.int qq), .val (.int (p0 &&& (7 : Int32))), .unset, .val .null, .unset] [(.int ps12)])) _
        refine XS.istore X0.here hx rfl (hb hby at_81) rfl (l' := #[.val (.int p0), .val (.int p1), .val (.int p2), .val (.int rr), .val (.int qq), .val (.int (p0 &&& (7 : Int32))), .unset, .val .null, .val (.int ps12)]) rfl ?_
        exact kq)
      obtain ⟨a1507, T1507, h1507, k1507, b1507, kb1507, X1507, e1507, E1507, hS, hk1507, hZ, hown, Ea1507, Fc1507, Fv1507, Ab1507, -, -, CH1507, Lt1507, -, st1507⟩ := ldcCH (s := s) (vm0 := s.vm) X0 hx hZ hown (wd hw 105 rfl) hstr e0 hS (Nat.zero_le h0.size) hEL (List.mem_of_getElem? (i := 1) rfl) hCH (vs := [(.int 105), (.int 110), (.int 100), (.int 101), (.int 112), (.int 101), (.int 110), (.int 100), (.int 101), (.int 110), (.int 116)]) (z := (11 : Int32)) ⟨by decide, by decide⟩ (by decide) (by decide) (g := (mkF m 83 #[.val (.int p0), .val (.int p1), .val (.int p2), .val (.int rr), .val (.int qq), .val (.int (p0 &&& (7 : Int32))), .unset, .val .null, .val (.int ps12)] [])) rfl (hb hby at_83) (n := 44) (by decide) (by decide) (by decide) (by decide)
      have G1508 : Go p e below A0 (T1507.setTop (mkF m 85 #[.val (.int p0), .val (.int p1), .val (.int p2), .val (.int rr), .val (.int qq), .val (.int (p0 &&& (7 : Int32))), .unset, .val .null, .val (.int ps12)] [(.ref a1507)])) := fun tq kq => G1506 tq (st1507 _ kq)
      have G1509 : Go p e below A0 (T1507.setTop (mkF m 88 #[.val (.int p0), .val (.int p1), .val (.int p2), .val (.int rr), .val (.int qq), .val (.int (p0 &&& (7 : Int32))), .unset, .val .null, .val (.int ps12)] [(.int rr), (.int ps12), (.ref a1507)])) := fun tq kq => G1508 tq (by
        refine XS.iload X1507.here hx rfl (hb hby at_85) rfl ?_
        refine XS.iloadN X1507.here hx rfl (hb hby at_87) rfl ?_
        exact kq)
      have f1511 := (Nat.le_trans Z0 E1507.1)
      have f1512 := (hold.ext E1507)
      obtain ⟨_, _, ⟨T1510, L1510, k1510, n1510⟩, -, X1510, ⟨Lc1510, hQ1510, l1510, y1510, z1510⟩, st1510⟩ := Jvm.LawKit.callS X1507 hx (y := (⟨"com/example/role_delegation/roledelegation/RevocationKindNamedPinLaw", "w11", "(Ljava/lang/String;IC)Ljava/lang/String;"⟩ : MethodName)) hown (mvT hZ (wd hw 106 rfl)) (mvT hZ (wd hw 107 rfl)) (mvT hZ (wd hw 11 rfl)) (mvT hZ (wd hw 108 rfl)) (by decide) (backOf (W := 0) (rmW11 l Z a0 hw [] a1507 b1507 kb1507 (own_t t_I) (11 : Int32) ps12 rr cs fo h1507 n0 f1511 Ea1507 Fv1507 Fc1507 ((Af.of Ab1507).fn own_tvI) (own_tL t_I own_tlI) lrr hCS hcs hSF hfo f1512) hZ (wd hw 108 rfl) (wd hw 11 rfl) (by decide) (by decide)) (g := (mkF m 88 #[.val (.int p0), .val (.int p1), .val (.int p2), .val (.int rr), .val (.int qq), .val (.int (p0 &&& (7 : Int32))), .unset, .val .null, .val (.int ps12)] [(.int rr), (.int ps12), (.ref a1507)])) rfl (by rw [hml]; rfl) (argsL := [(.ref a1507), (.int ps12), (.int rr)]) (rest := []) (lenOf pd_19 rfl) rfl (by show 2 * 0 + _ ≤ _; exact Nat.le_of_eq rfl) (hb hby at_88) (fun _ _ => ⟨rfl, e1507, (by decide : 2 + 3 ≤ _), (by decide : 48 + 27 ≤ _)⟩)
      dsimp only [Pt.U, Pt.locs, Pt.cells, Pt.slots] at X1510 l1510 y1510 z1510 st1510 hQ1510
      obtain rfl : k1510 = 5 := y1510
      obtain rfl : n1510 = 75 := z1510
      obtain ⟨wa1510, wb1510, wk1510, rfl, N1510q, K1510, hg1510, Es1510, Fv1510, Fc1510, Ab1510⟩ := hQ1510
      have N1510 : Fr n0 L1510 := by rw [l1510]; exact Fr.app N0 N1510q
      have G1513 : Go p e below A0 (T1510.setTop (mkF m 91 #[.val (.int p0), .val (.int p1), .val (.int p2), .val (.int rr), .val (.int qq), .val (.int (p0 &&& (7 : Int32))), .unset, .val .null, .val (.int ps12)] [(.ref wa1510)])) := fun tq kq => G1509 tq (st1510 _ kq)
      have G1514 : Go p e below A0 (T1510.setTop (mkF m 97 #[.val (.int p0), .val (.int p1), .val (.int p2), .val (.int rr), .val (.int qq), .val (.int (p0 &&& (7 : Int32))), .val (.ref wa1510), .val .null, .val (.int ps12)] [(.int 11), (.int ps12)])) := fun tq kq => G1513 tq (by
        refine XS.astore X1510.here hx rfl (hb hby at_91) rfl rfl (l' := #[.val (.int p0), .val (.int p1), .val (.int p2), .val (.int rr), .val (.int qq), .val (.int (p0 &&& (7 : Int32))), .val (.ref wa1510), .val .null, .val (.int ps12)]) rfl ?_
        refine XS.iload X1510.here hx rfl (hb hby at_93) rfl ?_
        refine XS.bipush X1510.here hx rfl (hb hby at_95) ?_
        exact kq)
      by_cases hc1515 : ps12 = (11 : Int32)
      · have G1516 : Go p e below A0 (T1510.setTop (mkF m 111 #[.val (.int p0), .val (.int p1), .val (.int p2), .val (.int rr), .val (.int qq), .val (.int (p0 &&& (7 : Int32))), .val (.ref wa1510), .val .null, .val (.int ps12)] [])) := fun tq kq => G1514 tq (by
          refine XS.icmpYes X1510.here hx rfl (pc0 := 97) (pc' := 111) rfl (hb hby at_97) rfl (teq hc1515).1 (by decide) (by decide) ?_
          exact kq)
        obtain ⟨T1517, X1517, e1517, st1517⟩ := getS2 X1510 hx hZ hown (host := "") (Or.inl (wd hw 133 rfl)) Via.refl rfl (hIS.ext (f1512.keep K1510 all0).2) (g := (mkF m 111 #[.val (.int p0), .val (.int p1), .val (.int p2), .val (.int rr), .val (.int qq), .val (.int (p0 &&& (7 : Int32))), .val (.ref wa1510), .val .null, .val (.int ps12)] [])) rfl (hb hby at_111)
        have G1518 : Go p e below A0 (T1517.setTop (mkF m 114 #[.val (.int p0), .val (.int p1), .val (.int p2), .val (.int rr), .val (.int qq), .val (.int (p0 &&& (7 : Int32))), .val (.ref wa1510), .val .null, .val (.int ps12)] [(.ref ip)])) := fun tq kq => G1516 tq (st1517 _ kq)
        have G1519 : Go p e below A0 (T1517.setTop (mkF m 260 #[.val (.int p0), .val (.int p1), .val (.int p2), .val (.int rr), .val (.int qq), .val (.int (p0 &&& (7 : Int32))), .val (.ref wa1510), .val (.ref ip), .val (.int ps12)] [(.ref wa1510)])) := fun tq kq => G1518 tq (by
          refine XS.astore X1517.here hx rfl (hb hby at_114) rfl rfl (l' := #[.val (.int p0), .val (.int p1), .val (.int p2), .val (.int rr), .val (.int qq), .val (.int (p0 &&& (7 : Int32))), .val (.ref wa1510), .val (.ref ip), .val (.int ps12)]) rfl ?_
          refine XS.goto X1517.here hx rfl (pc0 := 116) (pc' := 258) rfl (hb hby at_116) (by decide) (by decide) ?_
          refine XS.aload X1517.here hx rfl (hb hby at_258) rfl rfl ?_
          exact kq)
        have f1521 := (Nat.le_trans f1511 K1510.1)
        have f1522 := (f1512.keep K1510 all0)
        obtain ⟨_, _, ⟨T1520, L1520, k1520, n1520⟩, -, X1520, ⟨Lc1520, hQ1520, l1520, y1520, z1520⟩, st1520⟩ := Jvm.LawKit.callS X1517 hx (y := (⟨"com/example/role_delegation/roledelegation/RevocationKind", "named", "(Ljava/lang/String;)Lcom/example/role_delegation/roledelegation/RevocationKind;"⟩ : MethodName)) hown (mvT hZ (wd hw 73 rfl)) (mvT hZ (wd hw 74 rfl)) (mvT hZ (wd hw 75 rfl)) (mvT hZ (wd hw 76 rfl)) (by decide) (backOf (W := 0) (rmN11T l Z a0 hw [] va kv dp ip dw db iw ib kd ki wa1510 wb1510 wk1510 (own_gw (own_t t_I) (11 : Int32) ps12 rr) cs fo T1510.heap n0 f1521 hVS hEV hAV hWd hWi Es1510 Fv1510 Fc1510 hg1510 Ab1510 (own_Pt (n := 11) (by decide) (by decide) hps12.1 (Or.inl hc1515)) hCS hcs hSF hfo f1522) hZ (wd hw 76 rfl) (wd hw 75 rfl) (by decide) (by decide)) (g := (mkF m 260 #[.val (.int p0), .val (.int p1), .val (.int p2), .val (.int rr), .val (.int qq), .val (.int (p0 &&& (7 : Int32))), .val (.ref wa1510), .val (.ref ip), .val (.int ps12)] [(.ref wa1510)])) rfl (by rw [hml]; rfl) (argsL := [(.ref wa1510)]) (rest := []) (lenOf pd_20 rfl) rfl (by show 2 * 0 + _ ≤ _; exact Nat.le_of_eq rfl) (hb hby at_260) (fun _ _ => ⟨rfl, e1517, (by decide : 5 + 1 ≤ _), (by decide : 75 + 2 ≤ _)⟩)
        dsimp only [Pt.U, Pt.locs, Pt.cells, Pt.slots] at X1520 l1520 y1520 z1520 st1520 hQ1520
        obtain rfl : k1520 = 6 := y1520
        obtain rfl : n1520 = 77 := z1520
        obtain ⟨rfl, N1520q, K1520⟩ := hQ1520
        have N1520 : Fr n0 L1520 := by rw [l1520]; exact Fr.app N1510 N1520q
        have G1523 : Go p e below A0 (T1520.setTop (mkF m 263 #[.val (.int p0), .val (.int p1), .val (.int p2), .val (.int rr), .val (.int qq), .val (.int (p0 &&& (7 : Int32))), .val (.ref wa1510), .val (.ref ip), .val (.int ps12)] [(.ref ip)])) := fun tq kq => G1519 tq (st1520 _ kq)
        have G1524 : Go p e below A0 (T1520.setTop (mkF m 273 #[.val (.int p0), .val (.int p1), .val (.int p2), .val (.int rr), .val (.int qq), .val (.int (p0 &&& (7 : Int32))), .val (.ref wa1510), .val (.ref ip), .val (.int ps12)] [(.int 1)])) := fun tq kq => G1523 tq (by
          refine XS.aload X1520.here hx rfl (hb hby at_263) rfl rfl ?_
          refine Jvm.RoadKit.acmp (g := (mkF m 265 #[.val (.int p0), .val (.int p1), .val (.int p2), .val (.int rr), .val (.int qq), .val (.int (p0 &&& (7 : Int32))), .val (.ref wa1510), .val (.ref ip), .val (.int ps12)] [(.ref ip), (.ref ip)])) X1520 hx rfl rfl rfl (pc0 := 265) (pc' := 268) (same := true) rfl (hb hby at_265) rfl (decide_eq_true rfl) (by decide) (by decide) ?_
          refine XS.iconst X1520.here hx rfl (hb hby at_268) ?_
          refine XS.goto X1520.here hx rfl (pc0 := 269) (pc' := 273) rfl (hb hby at_269) (by decide) (by decide) ?_
          exact kq)
        have f1525 := (Nat.le_trans (Nat.le_trans hk1507 K1510.1) K1520.1)
        obtain ⟨fs, hr, hrun, hended, hRW⟩ := X1520.leaveW (s := s) (vm₁ := T1507.vm) hS f1525 (v := some (.int (nar .boolean (1 : Int32)))) (fun h => by rw [Bd.returns] at h; cases h)
        refine ⟨_, _, (by rw [← hA0]; exact G1524 _ (retN X1520 hx (t := .boolean) Bd.returns (by simp) (hb hby at_273) hr)), hrun, hended, _, _, rfl, ?_, hRW.1, hRW.2.1, hRW.2.2.1, hRW.2.2.2.mono (by decide) (by decide)⟩
        exact ⟨rfl, N1520⟩
      · have G1526 : Go p e below A0 (T1510.setTop (mkF m 101 #[.val (.int p0), .val (.int p1), .val (.int p2), .val (.int rr), .val (.int qq), .val (.int (p0 &&& (7 : Int32))), .val (.ref wa1510), .val .null, .val (.int ps12)] [(.int rr)])) := fun tq kq => G1514 tq (by
          refine XS.icmpNo X1510.here hx rfl (hb hby at_97) rfl (feq hc1515).1 ?_
          refine XS.iloadN X1510.here hx rfl (hb hby at_100) rfl ?_
          exact kq)
        have G1528 : Go p e below A0 (T1510.setTop (mkF m 103 #[.val (.int p0), .val (.int p1), .val (.int p2), .val (.int rr), .val (.int qq), .val (.int (p0 &&& (7 : Int32))), .val (.ref wa1510), .val .null, .val (.int ps12)] [(.ref a1507), (.int rr)])) := fun tq kq => G1526 tq (ldcAgain (s := s) (vm0 := T1507.vm) X1510 hx hZ hown (wd hw 105 rfl) Lt1507 (g := (mkF m 101 #[.val (.int p0), .val (.int p1), .val (.int p2), .val (.int rr), .val (.int qq), .val (.int (p0 &&& (7 : Int32))), .val (.ref wa1510), .val .null, .val (.int ps12)] [(.int rr)])) rfl (hb hby at_101) _ kq)
        have G1529 : Go p e below A0 (T1510.setTop (mkF m 105 #[.val (.int p0), .val (.int p1), .val (.int p2), .val (.int rr), .val (.int qq), .val (.int (p0 &&& (7 : Int32))), .val (.ref wa1510), .val .null, .val (.int ps12)] [(.int ps12), (.ref a1507), (.int rr)])) := fun tq kq => G1528 tq (by
          refine XS.iload X1510.here hx rfl (hb hby at_103) rfl ?_
          exact kq)
        have f1531 := (Ea1507.keep K1510)
        have f1532 := (Fv1507.keep K1510 nin0)
        have f1533 := (Fc1507.keep K1510 nin0)
        have f1534 := (Ab1507.keep K1510 nin0)
        have f1535 := (Nat.le_trans f1511 K1510.1)
        have f1536 := (f1512.keep K1510 all0)
        obtain ⟨cq1530, kq1530, q1530a, q1530b, q1530c⟩ := isOf hZ rfl f1531
        obtain ⟨_, _, ⟨T1530, L1530, k1530, n1530⟩, -, X1530, ⟨Lc1530, hQ1530, l1530, y1530, z1530⟩, st1530⟩ := X1510.virtualBack hx (y := (⟨"java/lang/String", "charAt", "(I)C"⟩ : MethodName)) (z := (⟨"java/lang/String", "charAt", "(I)C"⟩ : MethodName)) hown (mvT hZ (wd hw 30 rfl)) (mvT hZ (wd hw 31 rfl)) (notFace_of_selects (args := #[]) (mvT hZ (wd hw 33 rfl))) (mvT hZ (wd hw 33 rfl)) (mvT hZ (wd hw 32 rfl)) (by decide) (backOf (W := 1) (rmCA l Z a0 hw [] a1507 b1507 kb1507 (own_t t_I) ps12 (11 : Int32) cs fo T1510.heap n0 f1535 f1531 f1532 f1533 ((Af.of f1534).fn own_tvI) (own_posI (n := 11) hps12.1 (by have := hps12.2; omega) (by decide) hc1515) (own_tL t_I own_tlI _) hCS hcs hSF hfo f1536) hZ (wd hw 34 rfl) (wd hw 2 rfl) (by decide) (by decide)) q1530a q1530c (g := (mkF m 105 #[.val (.int p0), .val (.int p1), .val (.int p2), .val (.int rr), .val (.int qq), .val (.int (p0 &&& (7 : Int32))), .val (.ref wa1510), .val .null, .val (.int ps12)] [(.int ps12), (.ref a1507), (.int rr)])) rfl (by rw [hml]; rfl) (Steps.refl _) (argsL := [(.int ps12)]) (rest := [(.int rr)]) (lenOf pd_6 rfl) rfl (by show 2 * 0 + _ ≤ _; exact Nat.le_of_eq rfl) (hb hby at_105) (fun _ _ => ⟨rfl, rfl, (by decide : 5 + 0 ≤ _), (by decide : 75 + 0 ≤ _)⟩)
        dsimp only [Pt.U, Pt.locs, Pt.cells, Pt.slots] at X1530 l1530 y1530 z1530 st1530 hQ1530
        obtain rfl : k1530 = 5 := y1530
        obtain rfl : n1530 = 75 := z1530
        obtain ⟨rfl, N1530q, e1530⟩ := hQ1530
        have N1530 : Fr n0 L1530 := by rw [l1530]; exact Fr.app N1510 N1530q
        have G1537 : Go p e below A0 (T1530.setTop (mkF m 108 #[.val (.int p0), .val (.int p1), .val (.int p2), .val (.int rr), .val (.int qq), .val (.int (p0 &&& (7 : Int32))), .val (.ref wa1510), .val .null, .val (.int ps12)] [(.int (own_t t_I (ps12).toNatClampNeg)), (.int rr)])) := fun tq kq => G1529 tq (st1530.trans kq)
        by_cases hc1538 : rr = (own_t t_I (ps12).toNatClampNeg)
        · have G1539 : Go p e below A0 (T1530.setTop (mkF m 111 #[.val (.int p0), .val (.int p1), .val (.int p2), .val (.int rr), .val (.int qq), .val (.int (p0 &&& (7 : Int32))), .val (.ref wa1510), .val .null, .val (.int ps12)] [])) := fun tq kq => G1537 tq (by
            refine XS.icmpNo X1530.here hx rfl (hb hby at_108) rfl (teq hc1538).2 ?_
            exact kq)
          obtain ⟨T1540, X1540, e1540, st1540⟩ := getS2 X1530 hx hZ hown (host := "") (Or.inl (wd hw 133 rfl)) Via.refl e1530 (hIS.ext f1536.2) (g := (mkF m 111 #[.val (.int p0), .val (.int p1), .val (.int p2), .val (.int rr), .val (.int qq), .val (.int (p0 &&& (7 : Int32))), .val (.ref wa1510), .val .null, .val (.int ps12)] [])) rfl (hb hby at_111)
          have G1541 : Go p e below A0 (T1540.setTop (mkF m 114 #[.val (.int p0), .val (.int p1), .val (.int p2), .val (.int rr), .val (.int qq), .val (.int (p0 &&& (7 : Int32))), .val (.ref wa1510), .val .null, .val (.int ps12)] [(.ref ip)])) := fun tq kq => G1539 tq (st1540 _ kq)
          have G1542 : Go p e below A0 (T1540.setTop (mkF m 260 #[.val (.int p0), .val (.int p1), .val (.int p2), .val (.int rr), .val (.int qq), .val (.int (p0 &&& (7 : Int32))), .val (.ref wa1510), .val (.ref ip), .val (.int ps12)] [(.ref wa1510)])) := fun tq kq => G1541 tq (by
            refine XS.astore X1540.here hx rfl (hb hby at_114) rfl rfl (l' := #[.val (.int p0), .val (.int p1), .val (.int p2), .val (.int rr), .val (.int qq), .val (.int (p0 &&& (7 : Int32))), .val (.ref wa1510), .val (.ref ip), .val (.int ps12)]) rfl ?_
            refine XS.goto X1540.here hx rfl (pc0 := 116) (pc' := 258) rfl (hb hby at_116) (by decide) (by decide) ?_
            refine XS.aload X1540.here hx rfl (hb hby at_258) rfl rfl ?_
            exact kq)
          obtain ⟨_, _, ⟨T1543, L1543, k1543, n1543⟩, -, X1543, ⟨Lc1543, hQ1543, l1543, y1543, z1543⟩, st1543⟩ := Jvm.LawKit.callS X1540 hx (y := (⟨"com/example/role_delegation/roledelegation/RevocationKind", "named", "(Ljava/lang/String;)Lcom/example/role_delegation/roledelegation/RevocationKind;"⟩ : MethodName)) hown (mvT hZ (wd hw 73 rfl)) (mvT hZ (wd hw 74 rfl)) (mvT hZ (wd hw 75 rfl)) (mvT hZ (wd hw 76 rfl)) (by decide) (backOf (W := 0) (rmN11T l Z a0 hw [] va kv dp ip dw db iw ib kd ki wa1510 wb1510 wk1510 (own_gw (own_t t_I) (11 : Int32) ps12 rr) cs fo T1510.heap n0 f1535 hVS hEV hAV hWd hWi Es1510 Fv1510 Fc1510 hg1510 Ab1510 (own_Pt (n := 11) (by decide) (by decide) hps12.1 (Or.inr hc1538)) hCS hcs hSF hfo f1536) hZ (wd hw 76 rfl) (wd hw 75 rfl) (by decide) (by decide)) (g := (mkF m 260 #[.val (.int p0), .val (.int p1), .val (.int p2), .val (.int rr), .val (.int qq), .val (.int (p0 &&& (7 : Int32))), .val (.ref wa1510), .val (.ref ip), .val (.int ps12)] [(.ref wa1510)])) rfl (by rw [hml]; rfl) (argsL := [(.ref wa1510)]) (rest := []) (lenOf pd_20 rfl) rfl (by show 2 * 0 + _ ≤ _; exact Nat.le_of_eq rfl) (hb hby at_260) (fun _ _ => ⟨rfl, e1540, (by decide : 5 + 1 ≤ _), (by decide : 75 + 2 ≤ _)⟩)
          dsimp only [Pt.U, Pt.locs, Pt.cells, Pt.slots] at X1543 l1543 y1543 z1543 st1543 hQ1543
          obtain rfl : k1543 = 6 := y1543
          obtain rfl : n1543 = 77 := z1543
          obtain ⟨rfl, N1543q, K1543⟩ := hQ1543
          have N1543 : Fr n0 L1543 := by rw [l1543]; exact Fr.app N1530 N1543q
          have G1544 : Go p e below A0 (T1543.setTop (mkF m 263 #[.val (.int p0), .val (.int p1), .val (.int p2), .val (.int rr), .val (.int qq), .val (.int (p0 &&& (7 : Int32))), .val (.ref wa1510), .val (.ref ip), .val (.int ps12)] [(.ref ip)])) := fun tq kq => G1542 tq (st1543 _ kq)
          have G1545 : Go p e below A0 (T1543.setTop (mkF m 273 #[.val (.int p0), .val (.int p1), .val (.int p2), .val (.int rr), .val (.int qq), .val (.int (p0 &&& (7 : Int32))), .val (.ref wa1510), .val (.ref ip), .val (.int ps12)] [(.int 1)])) := fun tq kq => G1544 tq (by
            refine XS.aload X1543.here hx rfl (hb hby at_263) rfl rfl ?_
            refine Jvm.RoadKit.acmp (g := (mkF m 265 #[.val (.int p0), .val (.int p1), .val (.int p2), .val (.int rr), .val (.int qq), .val (.int (p0 &&& (7 : Int32))), .val (.ref wa1510), .val (.ref ip), .val (.int ps12)] [(.ref ip), (.ref ip)])) X1543 hx rfl rfl rfl (pc0 := 265) (pc' := 268) (same := true) rfl (hb hby at_265) rfl (decide_eq_true rfl) (by decide) (by decide) ?_
            refine XS.iconst X1543.here hx rfl (hb hby at_268) ?_
            refine XS.goto X1543.here hx rfl (pc0 := 269) (pc' := 273) rfl (hb hby at_269) (by decide) (by decide) ?_
            exact kq)
          have f1546 := (Nat.le_trans (Nat.le_trans hk1507 K1510.1) K1543.1)
          obtain ⟨fs, hr, hrun, hended, hRW⟩ := X1543.leaveW (s := s) (vm₁ := T1507.vm) hS f1546 (v := some (.int (nar .boolean (1 : Int32)))) (fun h => by rw [Bd.returns] at h; cases h)
          refine ⟨_, _, (by rw [← hA0]; exact G1545 _ (retN X1543 hx (t := .boolean) Bd.returns (by simp) (hb hby at_273) hr)), hrun, hended, _, _, rfl, ?_, hRW.1, hRW.2.1, hRW.2.2.1, hRW.2.2.2.mono (by decide) (by decide)⟩
          exact ⟨rfl, N1543⟩
        · have G1547 : Go p e below A0 (T1530.setTop (mkF m 260 #[.val (.int p0), .val (.int p1), .val (.int p2), .val (.int rr), .val (.int qq), .val (.int (p0 &&& (7 : Int32))), .val (.ref wa1510), .val .null, .val (.int ps12)] [(.ref wa1510)])) := fun tq kq => G1537 tq (by
            refine XS.icmpYes X1530.here hx rfl (pc0 := 108) (pc' := 116) rfl (hb hby at_108) rfl (feq hc1538).2 (by decide) (by decide) ?_
            refine XS.goto X1530.here hx rfl (pc0 := 116) (pc' := 258) rfl (hb hby at_116) (by decide) (by decide) ?_
            refine XS.aload X1530.here hx rfl (hb hby at_258) rfl rfl ?_
            exact kq)
          obtain ⟨_, _, ⟨T1548, L1548, k1548, n1548⟩, -, X1548, ⟨Lc1548, hQ1548, l1548, y1548, z1548⟩, st1548⟩ := Jvm.LawKit.callS X1530 hx (y := (⟨"com/example/role_delegation/roledelegation/RevocationKind", "named", "(Ljava/lang/String;)Lcom/example/role_delegation/roledelegation/RevocationKind;"⟩ : MethodName)) hown (mvT hZ (wd hw 73 rfl)) (mvT hZ (wd hw 74 rfl)) (mvT hZ (wd hw 75 rfl)) (mvT hZ (wd hw 76 rfl)) (by decide) (backOf (W := 0) (rmN11F l Z a0 hw [] va kv dp ip dw db iw ib kd ki wa1510 wb1510 wk1510 (own_gw (own_t t_I) (11 : Int32) ps12 rr) cs fo T1510.heap n0 f1535 hVS hEV hAV hWd hWi Es1510 Fv1510 Fc1510 hg1510 Ab1510 (own_Pf (n := 11) (by decide) (by decide) hps12.1 (by have := hps12.2; omega) own_tlI lrr hc1515 hc1538) hCS hcs hSF hfo f1536) hZ (wd hw 76 rfl) (wd hw 75 rfl) (by decide) (by decide)) (g := (mkF m 260 #[.val (.int p0), .val (.int p1), .val (.int p2), .val (.int rr), .val (.int qq), .val (.int (p0 &&& (7 : Int32))), .val (.ref wa1510), .val .null, .val (.int ps12)] [(.ref wa1510)])) rfl (by rw [hml]; rfl) (argsL := [(.ref wa1510)]) (rest := []) (lenOf pd_20 rfl) rfl (by show 2 * 0 + _ ≤ _; exact Nat.le_of_eq rfl) (hb hby at_260) (fun _ _ => ⟨rfl, e1530, (by decide : 5 + 1 ≤ _), (by decide : 75 + 2 ≤ _)⟩)
          dsimp only [Pt.U, Pt.locs, Pt.cells, Pt.slots] at X1548 l1548 y1548 z1548 st1548 hQ1548
          obtain rfl : k1548 = 6 := y1548
          obtain rfl : n1548 = 77 := z1548
          obtain ⟨rfl, N1548q, K1548⟩ := hQ1548
          have N1548 : Fr n0 L1548 := by rw [l1548]; exact Fr.app N1530 N1548q
          have G1549 : Go p e below A0 (T1548.setTop (mkF m 263 #[.val (.int p0), .val (.int p1), .val (.int p2), .val (.int rr), .val (.int qq), .val (.int (p0 &&& (7 : Int32))), .val (.ref wa1510), .val .null, .val (.int ps12)] [.null])) := fun tq kq => G1547 tq (st1548 _ kq)
          have G1550 : Go p e below A0 (T1548.setTop (mkF m 273 #[.val (.int p0), .val (.int p1), .val (.int p2), .val (.int rr), .val (.int qq), .val (.int (p0 &&& (7 : Int32))), .val (.ref wa1510), .val .null, .val (.int ps12)] [(.int 1)])) := fun tq kq => G1549 tq (by
            refine XS.aload X1548.here hx rfl (hb hby at_263) rfl rfl ?_
            refine Jvm.RoadKit.acmp (g := (mkF m 265 #[.val (.int p0), .val (.int p1), .val (.int p2), .val (.int rr), .val (.int qq), .val (.int (p0 &&& (7 : Int32))), .val (.ref wa1510), .val .null, .val (.int ps12)] [.null, .null])) X1548 hx rfl rfl rfl (pc0 := 265) (pc' := 268) (same := true) rfl (hb hby at_265) rfl (decide_eq_true rfl) (by decide) (by decide) ?_
            refine XS.iconst X1548.here hx rfl (hb hby at_268) ?_
            refine XS.goto X1548.here hx rfl (pc0 := 269) (pc' := 273) rfl (hb hby at_269) (by decide) (by decide) ?_
            exact kq)
          have f1551 := (Nat.le_trans (Nat.le_trans hk1507 K1510.1) K1548.1)
          obtain ⟨fs, hr, hrun, hended, hRW⟩ := X1548.leaveW (s := s) (vm₁ := T1507.vm) hS f1551 (v := some (.int (nar .boolean (1 : Int32)))) (fun h => by rw [Bd.returns] at h; cases h)
          refine ⟨_, _, (by rw [← hA0]; exact G1550 _ (retN X1548 hx (t := .boolean) Bd.returns (by simp) (hb hby at_273) hr)), hrun, hended, _, _, rfl, ?_, hRW.1, hRW.2.1, hRW.2.2.1, hRW.2.2.2.mono (by decide) (by decide)⟩
          exact ⟨rfl, N1548⟩
    · have G1552 : Go p e below A0 (s₁.setTop (mkF m 122 #[.val (.int p0), .val (.int p1), .val (.int p2), .val (.int rr), .val (.int qq), .val (.int (p0 &&& (7 : Int32))), .unset, .val .null, .unset] [(.int 2), (.int (p0 &&& (7 : Int32)))])) := fun tq kq => G1504 tq (by
        refine XS.icmpYes X0.here hx rfl (pc0 := 73) (pc' := 119) rfl (hb hby at_73) rfl (feq hc1505).2 (by decide) (by decide) ?_
        refine XS.iload X0.here hx rfl (hb hby at_119) rfl ?_
        refine XS.iconst X0.here hx rfl (hb hby at_121) ?_
        exact kq)
      by_cases hc1553 : (p0 &&& (7 : Int32)) = (2 : Int32)
      · have G1554 : Go p e below A0 (s₁.setTop (mkF m 125 #[.val (.int p0), .val (.int p1), .val (.int p2), .val (.int rr), .val (.int qq), .val (.int (p0 &&& (7 : Int32))), .unset, .val .null, .unset] [])) := fun tq kq => G1552 tq (by
          refine XS.icmpNo X0.here hx rfl (hb hby at_122) rfl (teq hc1553).2 ?_
          exact kq)
        obtain ⟨a1555, T1555, h1555, k1555, b1555, kb1555, X1555, e1555, E1555, hS, hk1555, hZ, hown, Ea1555, Fc1555, Fv1555, Ab1555, -, -, CH1555, Lt1555, -, st1555⟩ := ldcCH (s := s) (vm0 := s.vm) X0 hx hZ hown (wd hw 1 rfl) hstr e0 hS (Nat.zero_le h0.size) hEL (List.mem_of_getElem? (i := 0) rfl) hCH (vs := [(.int 100), (.int 101), (.int 112), (.int 101), (.int 110), (.int 100), (.int 101), (.int 110), (.int 116)]) (z := (9 : Int32)) ⟨by decide, by decide⟩ (by decide) (by decide) (g := (mkF m 125 #[.val (.int p0), .val (.int p1), .val (.int p2), .val (.int rr), .val (.int qq), .val (.int (p0 &&& (7 : Int32))), .unset, .val .null, .unset] [])) rfl (hb hby at_125) (n := 36) (by decide) (by decide) (by decide) (by decide)
        have G1556 : Go p e below A0 (T1555.setTop (mkF m 127 #[.val (.int p0), .val (.int p1), .val (.int p2), .val (.int rr), .val (.int qq), .val (.int (p0 &&& (7 : Int32))), .unset, .val .null, .unset] [(.ref a1555)])) := fun tq kq => G1554 tq (st1555 _ kq)
        have G1557 : Go p e below A0 (T1555.setTop (mkF m 133 #[.val (.int p0), .val (.int p1), .val (.int p2), .val (.int rr), .val (.int qq), .val (.int (p0 &&& (7 : Int32))), .unset, .val .null, .unset] [(.int rr), (.int ps11), (.ref a1555)])) := fun tq kq => G1556 tq (by
          refine XS.iload X1555.here hx rfl (hb hby at_127) rfl ?_
          refine XS.bipush X1555.here hx rfl (hb hby at_129) ?_
          refine iremM X1555 hx rfl (hb hby at_131) rfl (by decide) ?_
          show Steps p.tables e below (T1555.setTop (mkF m 132 #[.val (.int p0), .val (.int p1), .val (.int p2), .val (.int rr), .val (.int qq), .val (.int (p0 &&& (7 : Int32))), .unset, .val .null, .unset] [(.int (qq % (11 : Int32))), (.ref a1555)])) _
          rw [show (qq % (11 : Int32)) = ps11 from eps11.symm]
          show Steps p.tables e below (T1555.setTop (mkF m 132 #[.val (.int p0), .val (.int p1), .val (.int p2), .val (.int rr), .val (.int qq), .val (.int (p0 &&& (7 : Int32))), .unset, .val .null, .unset] [(.int ps11), (.ref a1555)])) _
          refine XS.iloadN X1555.here hx rfl (hb hby at_132) rfl ?_
          exact kq)
        have f1559 := (Nat.le_trans Z0 E1555.1)
        have f1560 := (hold.ext E1555)
        obtain ⟨_, _, ⟨T1558, L1558, k1558, n1558⟩, -, X1558, ⟨Lc1558, hQ1558, l1558, y1558, z1558⟩, st1558⟩ := Jvm.LawKit.callS X1555 hx (y := (⟨"com/example/role_delegation/roledelegation/RevocationKindNamedPinLaw", "w10", "(Ljava/lang/String;IC)Ljava/lang/String;"⟩ : MethodName)) hown (mvT hZ (wd hw 113 rfl)) (mvT hZ (wd hw 114 rfl)) (mvT hZ (wd hw 11 rfl)) (mvT hZ (wd hw 115 rfl)) (by decide) (backOf (W := 0) (rmW10 l Z a0 hw [] a1555 b1555 kb1555 (own_t t_D) (9 : Int32) ps11 rr cs fo h1555 n0 f1559 Ea1555 Fv1555 Fc1555 ((Af.of Ab1555).fn own_tvD) (own_tL t_D own_tlD) lrr hCS hcs hSF hfo f1560) hZ (wd hw 115 rfl) (wd hw 11 rfl) (by decide) (by decide)) (g := (mkF m 133 #[.val (.int p0), .val (.int p1), .val (.int p2), .val (.int rr), .val (.int qq), .val (.int (p0 &&& (7 : Int32))), .unset, .val .null, .unset] [(.int rr), (.int ps11), (.ref a1555)])) rfl (by rw [hml]; rfl) (argsL := [(.ref a1555), (.int ps11), (.int rr)]) (rest := []) (lenOf pd_19 rfl) rfl (by show 2 * 0 + _ ≤ _; exact Nat.le_of_eq rfl) (hb hby at_133) (fun _ _ => ⟨rfl, e1555, (by decide : 2 + 3 ≤ _), (by decide : 40 + 26 ≤ _)⟩)
        dsimp only [Pt.U, Pt.locs, Pt.cells, Pt.slots] at X1558 l1558 y1558 z1558 st1558 hQ1558
        obtain rfl : k1558 = 5 := y1558
        obtain rfl : n1558 = 66 := z1558
        obtain ⟨wa1558, wb1558, wk1558, rfl, N1558q, K1558, hg1558, Es1558, Fv1558, Fc1558, Ab1558⟩ := hQ1558
        have N1558 : Fr n0 L1558 := by rw [l1558]; exact Fr.app N0 N1558q
        have G1561 : Go p e below A0 (T1558.setTop (mkF m 136 #[.val (.int p0), .val (.int p1), .val (.int p2), .val (.int rr), .val (.int qq), .val (.int (p0 &&& (7 : Int32))), .unset, .val .null, .unset] [(.ref wa1558)])) := fun tq kq => G1557 tq (st1558 _ kq)
        have G1562 : Go p e below A0 (T1558.setTop (mkF m 260 #[.val (.int p0), .val (.int p1), .val (.int p2), .val (.int rr), .val (.int qq), .val (.int (p0 &&& (7 : Int32))), .val (.ref wa1558), .val .null, .unset] [(.ref wa1558)])) := fun tq kq => G1561 tq (by
          refine XS.astore X1558.here hx rfl (hb hby at_136) rfl rfl (l' := #[.val (.int p0), .val (.int p1), .val (.int p2), .val (.int rr), .val (.int qq), .val (.int (p0 &&& (7 : Int32))), .val (.ref wa1558), .val .null, .unset]) rfl ?_
          refine XS.goto X1558.here hx rfl (pc0 := 138) (pc' := 258) rfl (hb hby at_138) (by decide) (by decide) ?_
          refine XS.aload X1558.here hx rfl (hb hby at_258) rfl rfl ?_
          exact kq)
        have f1564 := (Nat.le_trans f1559 K1558.1)
        have f1565 := (f1560.keep K1558 all0)
        obtain ⟨_, _, ⟨T1563, L1563, k1563, n1563⟩, -, X1563, ⟨Lc1563, hQ1563, l1563, y1563, z1563⟩, st1563⟩ := Jvm.LawKit.callS X1558 hx (y := (⟨"com/example/role_delegation/roledelegation/RevocationKind", "named", "(Ljava/lang/String;)Lcom/example/role_delegation/roledelegation/RevocationKind;"⟩ : MethodName)) hown (mvT hZ (wd hw 73 rfl)) (mvT hZ (wd hw 74 rfl)) (mvT hZ (wd hw 75 rfl)) (mvT hZ (wd hw 76 rfl)) (by decide) (backOf (W := 0) (rmNX l Z a0 hw [] va kv dp ip dw db iw ib kd ki wa1558 wb1558 wk1558 _ (10 : Int32) cs fo T1558.heap n0 f1564 hVS hEV hAV hWd hWi Es1558 Fv1558 Fc1558 hg1558 Ab1558 (by decide) (by decide) hCS hcs hSF hfo f1565) hZ (wd hw 76 rfl) (wd hw 75 rfl) (by decide) (by decide)) (g := (mkF m 260 #[.val (.int p0), .val (.int p1), .val (.int p2), .val (.int rr), .val (.int qq), .val (.int (p0 &&& (7 : Int32))), .val (.ref wa1558), .val .null, .unset] [(.ref wa1558)])) rfl (by rw [hml]; rfl) (argsL := [(.ref wa1558)]) (rest := []) (lenOf pd_20 rfl) rfl (by show 2 * 0 + _ ≤ _; exact Nat.le_of_eq rfl) (hb hby at_260) (fun _ _ => ⟨rfl, rfl, (by decide : 5 + 1 ≤ _), (by decide : 66 + 2 ≤ _)⟩)
        dsimp only [Pt.U, Pt.locs, Pt.cells, Pt.slots] at X1563 l1563 y1563 z1563 st1563 hQ1563
        obtain rfl : k1563 = 6 := y1563
        obtain rfl : n1563 = 68 := z1563
        obtain ⟨rfl, N1563q, K1563⟩ := hQ1563
        have N1563 : Fr n0 L1563 := by rw [l1563]; exact Fr.app N1558 N1563q
        have G1566 : Go p e below A0 (T1563.setTop (mkF m 263 #[.val (.int p0), .val (.int p1), .val (.int p2), .val (.int rr), .val (.int qq), .val (.int (p0 &&& (7 : Int32))), .val (.ref wa1558), .val .null, .unset] [.null])) := fun tq kq => G1562 tq (st1563 _ kq)
        have G1567 : Go p e below A0 (T1563.setTop (mkF m 273 #[.val (.int p0), .val (.int p1), .val (.int p2), .val (.int rr), .val (.int qq), .val (.int (p0 &&& (7 : Int32))), .val (.ref wa1558), .val .null, .unset] [(.int 1)])) := fun tq kq => G1566 tq (by
          refine XS.aload X1563.here hx rfl (hb hby at_263) rfl rfl ?_
          refine Jvm.RoadKit.acmp (g := (mkF m 265 #[.val (.int p0), .val (.int p1), .val (.int p2), .val (.int rr), .val (.int qq), .val (.int (p0 &&& (7 : Int32))), .val (.ref wa1558), .val .null, .unset] [.null, .null])) X1563 hx rfl rfl rfl (pc0 := 265) (pc' := 268) (same := true) rfl (hb hby at_265) rfl (decide_eq_true rfl) (by decide) (by decide) ?_
          refine XS.iconst X1563.here hx rfl (hb hby at_268) ?_
          refine XS.goto X1563.here hx rfl (pc0 := 269) (pc' := 273) rfl (hb hby at_269) (by decide) (by decide) ?_
          exact kq)
        have f1568 := (Nat.le_trans (Nat.le_trans hk1555 K1558.1) K1563.1)
        obtain ⟨fs, hr, hrun, hended, hRW⟩ := X1563.leaveW (s := s) (vm₁ := T1555.vm) hS f1568 (v := some (.int (nar .boolean (1 : Int32)))) (fun h => by rw [Bd.returns] at h; cases h)
        refine ⟨_, _, (by rw [← hA0]; exact G1567 _ (retN X1563 hx (t := .boolean) Bd.returns (by simp) (hb hby at_273) hr)), hrun, hended, _, _, rfl, ?_, hRW.1, hRW.2.1, hRW.2.2.1, hRW.2.2.2.mono (by decide) (by decide)⟩
        exact ⟨rfl, N1563⟩
      · have G1569 : Go p e below A0 (s₁.setTop (mkF m 144 #[.val (.int p0), .val (.int p1), .val (.int p2), .val (.int rr), .val (.int qq), .val (.int (p0 &&& (7 : Int32))), .unset, .val .null, .unset] [(.int 3), (.int (p0 &&& (7 : Int32)))])) := fun tq kq => G1552 tq (by
          refine XS.icmpYes X0.here hx rfl (pc0 := 122) (pc' := 141) rfl (hb hby at_122) rfl (feq hc1553).2 (by decide) (by decide) ?_
          refine XS.iload X0.here hx rfl (hb hby at_141) rfl ?_
          refine XS.iconst X0.here hx rfl (hb hby at_143) ?_
          exact kq)
        by_cases hc1570 : (p0 &&& (7 : Int32)) = (3 : Int32)
        · have G1571 : Go p e below A0 (s₁.setTop (mkF m 147 #[.val (.int p0), .val (.int p1), .val (.int p2), .val (.int rr), .val (.int qq), .val (.int (p0 &&& (7 : Int32))), .unset, .val .null, .unset] [])) := fun tq kq => G1569 tq (by
            refine XS.icmpNo X0.here hx rfl (hb hby at_144) rfl (teq hc1570).2 ?_
            exact kq)
          obtain ⟨a1572, T1572, h1572, k1572, b1572, kb1572, X1572, e1572, E1572, hS, hk1572, hZ, hown, Ea1572, Fc1572, Fv1572, Ab1572, -, -, CH1572, Lt1572, -, st1572⟩ := ldcCH (s := s) (vm0 := s.vm) X0 hx hZ hown (wd hw 105 rfl) hstr e0 hS (Nat.zero_le h0.size) hEL (List.mem_of_getElem? (i := 1) rfl) hCH (vs := [(.int 105), (.int 110), (.int 100), (.int 101), (.int 112), (.int 101), (.int 110), (.int 100), (.int 101), (.int 110), (.int 116)]) (z := (11 : Int32)) ⟨by decide, by decide⟩ (by decide) (by decide) (g := (mkF m 147 #[.val (.int p0), .val (.int p1), .val (.int p2), .val (.int rr), .val (.int qq), .val (.int (p0 &&& (7 : Int32))), .unset, .val .null, .unset] [])) rfl (hb hby at_147) (n := 44) (by decide) (by decide) (by decide) (by decide)
          have G1573 : Go p e below A0 (T1572.setTop (mkF m 149 #[.val (.int p0), .val (.int p1), .val (.int p2), .val (.int rr), .val (.int qq), .val (.int (p0 &&& (7 : Int32))), .unset, .val .null, .unset] [(.ref a1572)])) := fun tq kq => G1571 tq (st1572 _ kq)
          have G1574 : Go p e below A0 (T1572.setTop (mkF m 155 #[.val (.int p0), .val (.int p1), .val (.int p2), .val (.int rr), .val (.int qq), .val (.int (p0 &&& (7 : Int32))), .unset, .val .null, .unset] [(.int rr), (.int ps13), (.ref a1572)])) := fun tq kq => G1573 tq (by
            refine XS.iload X1572.here hx rfl (hb hby at_149) rfl ?_
            refine XS.bipush X1572.here hx rfl (hb hby at_151) ?_
            refine iremM X1572 hx rfl (hb hby at_153) rfl (by decide) ?_
            show Steps p.tables e below (T1572.setTop (mkF m 154 #[.val (.int p0), .val (.int p1), .val (.int p2), .val (.int rr), .val (.int qq), .val (.int (p0 &&& (7 : Int32))), .unset, .val .null, .unset] [(.int (qq % (13 : Int32))), (.ref a1572)])) _
            rw [show (qq % (13 : Int32)) = ps13 from eps13.symm]
            show Steps p.tables e below (T1572.setTop (mkF m 154 #[.val (.int p0), .val (.int p1), .val (.int p2), .val (.int rr), .val (.int qq), .val (.int (p0 &&& (7 : Int32))), .unset, .val .null, .unset] [(.int ps13), (.ref a1572)])) _
            refine XS.iloadN X1572.here hx rfl (hb hby at_154) rfl ?_
            exact kq)
          have f1576 := (Nat.le_trans Z0 E1572.1)
          have f1577 := (hold.ext E1572)
          obtain ⟨_, _, ⟨T1575, L1575, k1575, n1575⟩, -, X1575, ⟨Lc1575, hQ1575, l1575, y1575, z1575⟩, st1575⟩ := Jvm.LawKit.callS X1572 hx (y := (⟨"com/example/role_delegation/roledelegation/RevocationKindNamedPinLaw", "w12", "(Ljava/lang/String;IC)Ljava/lang/String;"⟩ : MethodName)) hown (mvT hZ (wd hw 116 rfl)) (mvT hZ (wd hw 117 rfl)) (mvT hZ (wd hw 11 rfl)) (mvT hZ (wd hw 118 rfl)) (by decide) (backOf (W := 0) (rmW12 l Z a0 hw [] a1572 b1572 kb1572 (own_t t_I) (11 : Int32) ps13 rr cs fo h1572 n0 f1576 Ea1572 Fv1572 Fc1572 ((Af.of Ab1572).fn own_tvI) (own_tL t_I own_tlI) lrr hCS hcs hSF hfo f1577) hZ (wd hw 118 rfl) (wd hw 11 rfl) (by decide) (by decide)) (g := (mkF m 155 #[.val (.int p0), .val (.int p1), .val (.int p2), .val (.int rr), .val (.int qq), .val (.int (p0 &&& (7 : Int32))), .unset, .val .null, .unset] [(.int rr), (.int ps13), (.ref a1572)])) rfl (by rw [hml]; rfl) (argsL := [(.ref a1572), (.int ps13), (.int rr)]) (rest := []) (lenOf pd_19 rfl) rfl (by show 2 * 0 + _ ≤ _; exact Nat.le_of_eq rfl) (hb hby at_155) (fun _ _ => ⟨rfl, e1572, (by decide : 2 + 3 ≤ _), (by decide : 48 + 28 ≤ _)⟩)
          dsimp only [Pt.U, Pt.locs, Pt.cells, Pt.slots] at X1575 l1575 y1575 z1575 st1575 hQ1575
          obtain rfl : k1575 = 5 := y1575
          obtain rfl : n1575 = 76 := z1575
          obtain ⟨wa1575, wb1575, wk1575, rfl, N1575q, K1575, hg1575, Es1575, Fv1575, Fc1575, Ab1575⟩ := hQ1575
          have N1575 : Fr n0 L1575 := by rw [l1575]; exact Fr.app N0 N1575q
          have G1578 : Go p e below A0 (T1575.setTop (mkF m 158 #[.val (.int p0), .val (.int p1), .val (.int p2), .val (.int rr), .val (.int qq), .val (.int (p0 &&& (7 : Int32))), .unset, .val .null, .unset] [(.ref wa1575)])) := fun tq kq => G1574 tq (st1575 _ kq)
          have G1579 : Go p e below A0 (T1575.setTop (mkF m 260 #[.val (.int p0), .val (.int p1), .val (.int p2), .val (.int rr), .val (.int qq), .val (.int (p0 &&& (7 : Int32))), .val (.ref wa1575), .val .null, .unset] [(.ref wa1575)])) := fun tq kq => G1578 tq (by
            refine XS.astore X1575.here hx rfl (hb hby at_158) rfl rfl (l' := #[.val (.int p0), .val (.int p1), .val (.int p2), .val (.int rr), .val (.int qq), .val (.int (p0 &&& (7 : Int32))), .val (.ref wa1575), .val .null, .unset]) rfl ?_
            refine XS.goto X1575.here hx rfl (pc0 := 160) (pc' := 258) rfl (hb hby at_160) (by decide) (by decide) ?_
            refine XS.aload X1575.here hx rfl (hb hby at_258) rfl rfl ?_
            exact kq)
          have f1581 := (Nat.le_trans f1576 K1575.1)
          have f1582 := (f1577.keep K1575 all0)
          obtain ⟨_, _, ⟨T1580, L1580, k1580, n1580⟩, -, X1580, ⟨Lc1580, hQ1580, l1580, y1580, z1580⟩, st1580⟩ := Jvm.LawKit.callS X1575 hx (y := (⟨"com/example/role_delegation/roledelegation/RevocationKind", "named", "(Ljava/lang/String;)Lcom/example/role_delegation/roledelegation/RevocationKind;"⟩ : MethodName)) hown (mvT hZ (wd hw 73 rfl)) (mvT hZ (wd hw 74 rfl)) (mvT hZ (wd hw 75 rfl)) (mvT hZ (wd hw 76 rfl)) (by decide) (backOf (W := 0) (rmNX l Z a0 hw [] va kv dp ip dw db iw ib kd ki wa1575 wb1575 wk1575 _ (12 : Int32) cs fo T1575.heap n0 f1581 hVS hEV hAV hWd hWi Es1575 Fv1575 Fc1575 hg1575 Ab1575 (by decide) (by decide) hCS hcs hSF hfo f1582) hZ (wd hw 76 rfl) (wd hw 75 rfl) (by decide) (by decide)) (g := (mkF m 260 #[.val (.int p0), .val (.int p1), .val (.int p2), .val (.int rr), .val (.int qq), .val (.int (p0 &&& (7 : Int32))), .val (.ref wa1575), .val .null, .unset] [(.ref wa1575)])) rfl (by rw [hml]; rfl) (argsL := [(.ref wa1575)]) (rest := []) (lenOf pd_20 rfl) rfl (by show 2 * 0 + _ ≤ _; exact Nat.le_of_eq rfl) (hb hby at_260) (fun _ _ => ⟨rfl, rfl, (by decide : 5 + 1 ≤ _), (by decide : 76 + 2 ≤ _)⟩)
          dsimp only [Pt.U, Pt.locs, Pt.cells, Pt.slots] at X1580 l1580 y1580 z1580 st1580 hQ1580
          obtain rfl : k1580 = 6 := y1580
          obtain rfl : n1580 = 78 := z1580
          obtain ⟨rfl, N1580q, K1580⟩ := hQ1580
          have N1580 : Fr n0 L1580 := by rw [l1580]; exact Fr.app N1575 N1580q
          have G1583 : Go p e below A0 (T1580.setTop (mkF m 263 #[.val (.int p0), .val (.int p1), .val (.int p2), .val (.int rr), .val (.int qq), .val (.int (p0 &&& (7 : Int32))), .val (.ref wa1575), .val .null, .unset] [.null])) := fun tq kq => G1579 tq (st1580 _ kq)
          have G1584 : Go p e below A0 (T1580.setTop (mkF m 273 #[.val (.int p0), .val (.int p1), .val (.int p2), .val (.int rr), .val (.int qq), .val (.int (p0 &&& (7 : Int32))), .val (.ref wa1575), .val .null, .unset] [(.int 1)])) := fun tq kq => G1583 tq (by
            refine XS.aload X1580.here hx rfl (hb hby at_263) rfl rfl ?_
            refine Jvm.RoadKit.acmp (g := (mkF m 265 #[.val (.int p0), .val (.int p1), .val (.int p2), .val (.int rr), .val (.int qq), .val (.int (p0 &&& (7 : Int32))), .val (.ref wa1575), .val .null, .unset] [.null, .null])) X1580 hx rfl rfl rfl (pc0 := 265) (pc' := 268) (same := true) rfl (hb hby at_265) rfl (decide_eq_true rfl) (by decide) (by decide) ?_
            refine XS.iconst X1580.here hx rfl (hb hby at_268) ?_
            refine XS.goto X1580.here hx rfl (pc0 := 269) (pc' := 273) rfl (hb hby at_269) (by decide) (by decide) ?_
            exact kq)
          have f1585 := (Nat.le_trans (Nat.le_trans hk1572 K1575.1) K1580.1)
          obtain ⟨fs, hr, hrun, hended, hRW⟩ := X1580.leaveW (s := s) (vm₁ := T1572.vm) hS f1585 (v := some (.int (nar .boolean (1 : Int32)))) (fun h => by rw [Bd.returns] at h; cases h)
          refine ⟨_, _, (by rw [← hA0]; exact G1584 _ (retN X1580 hx (t := .boolean) Bd.returns (by simp) (hb hby at_273) hr)), hrun, hended, _, _, rfl, ?_, hRW.1, hRW.2.1, hRW.2.2.1, hRW.2.2.2.mono (by decide) (by decide)⟩
          exact ⟨rfl, N1580⟩
        · have G1586 : Go p e below A0 (s₁.setTop (mkF m 166 #[.val (.int p0), .val (.int p1), .val (.int p2), .val (.int rr), .val (.int qq), .val (.int (p0 &&& (7 : Int32))), .unset, .val .null, .unset] [(.int 4), (.int (p0 &&& (7 : Int32)))])) := fun tq kq => G1569 tq (by
            refine XS.icmpYes X0.here hx rfl (pc0 := 144) (pc' := 163) rfl (hb hby at_144) rfl (feq hc1570).2 (by decide) (by decide) ?_
            refine XS.iload X0.here hx rfl (hb hby at_163) rfl ?_
            refine XS.iconst X0.here hx rfl (hb hby at_165) ?_
            exact kq)
          by_cases hc1587 : (p0 &&& (7 : Int32)) = (4 : Int32)
          · have G1588 : Go p e below A0 (s₁.setTop (mkF m 169 #[.val (.int p0), .val (.int p1), .val (.int p2), .val (.int rr), .val (.int qq), .val (.int (p0 &&& (7 : Int32))), .unset, .val .null, .unset] [])) := fun tq kq => G1586 tq (by
              refine XS.icmpNo X0.here hx rfl (hb hby at_166) rfl (teq hc1587).2 ?_
              exact kq)
            obtain ⟨a1589, T1589, h1589, k1589, b1589, kb1589, X1589, e1589, E1589, hS, hk1589, hZ, hown, Ea1589, Fc1589, Fv1589, Ab1589, -, -, CH1589, Lt1589, -, st1589⟩ := ldcCH (s := s) (vm0 := s.vm) X0 hx hZ hown (wd hw 1 rfl) hstr e0 hS (Nat.zero_le h0.size) hEL (List.mem_of_getElem? (i := 0) rfl) hCH (vs := [(.int 100), (.int 101), (.int 112), (.int 101), (.int 110), (.int 100), (.int 101), (.int 110), (.int 116)]) (z := (9 : Int32)) ⟨by decide, by decide⟩ (by decide) (by decide) (g := (mkF m 169 #[.val (.int p0), .val (.int p1), .val (.int p2), .val (.int rr), .val (.int qq), .val (.int (p0 &&& (7 : Int32))), .unset, .val .null, .unset] [])) rfl (hb hby at_169) (n := 36) (by decide) (by decide) (by decide) (by decide)
            have G1590 : Go p e below A0 (T1589.setTop (mkF m 171 #[.val (.int p0), .val (.int p1), .val (.int p2), .val (.int rr), .val (.int qq), .val (.int (p0 &&& (7 : Int32))), .unset, .val .null, .unset] [(.ref a1589)])) := fun tq kq => G1588 tq (st1589 _ kq)
            have G1591 : Go p e below A0 (T1589.setTop (mkF m 177 #[.val (.int p0), .val (.int p1), .val (.int p2), .val (.int rr), .val (.int qq), .val (.int (p0 &&& (7 : Int32))), .unset, .val .null, .unset] [(.int rr), (.int ps9), (.ref a1589)])) := fun tq kq => G1590 tq (by
              refine XS.iload X1589.here hx rfl (hb hby at_171) rfl ?_
              refine XS.bipush X1589.here hx rfl (hb hby at_173) ?_
              refine iremM X1589 hx rfl (hb hby at_175) rfl (by decide) ?_
              show Steps p.tables e below (T1589.setTop (mkF m 176 #[.val (.int p0), .val (.int p1), .val (.int p2), .val (.int rr), .val (.int qq), .val (.int (p0 &&& (7 : Int32))), .unset, .val .null, .unset] [(.int (qq % (9 : Int32))), (.ref a1589)])) _
              rw [show (qq % (9 : Int32)) = ps9 from eps9.symm]
              show Steps p.tables e below (T1589.setTop (mkF m 176 #[.val (.int p0), .val (.int p1), .val (.int p2), .val (.int rr), .val (.int qq), .val (.int (p0 &&& (7 : Int32))), .unset, .val .null, .unset] [(.int ps9), (.ref a1589)])) _
              refine XS.iloadN X1589.here hx rfl (hb hby at_176) rfl ?_
              exact kq)
            have f1593 := (Nat.le_trans Z0 E1589.1)
            have f1594 := (hold.ext E1589)
            obtain ⟨_, _, ⟨T1592, L1592, k1592, n1592⟩, -, X1592, ⟨Lc1592, hQ1592, l1592, y1592, z1592⟩, st1592⟩ := Jvm.LawKit.callS X1589 hx (y := (⟨"com/example/role_delegation/roledelegation/RevocationKindNamedPinLaw", "w8", "(Ljava/lang/String;IC)Ljava/lang/String;"⟩ : MethodName)) hown (mvT hZ (wd hw 109 rfl)) (mvT hZ (wd hw 110 rfl)) (mvT hZ (wd hw 11 rfl)) (mvT hZ (wd hw 111 rfl)) (by decide) (backOf (W := 0) (rmW8 l Z a0 hw [] a1589 b1589 kb1589 (own_t t_D) (9 : Int32) ps9 rr cs fo h1589 n0 f1593 Ea1589 Fv1589 Fc1589 ((Af.of Ab1589).fn own_tvD) (own_tL t_D own_tlD) lrr hCS hcs hSF hfo f1594) hZ (wd hw 111 rfl) (wd hw 11 rfl) (by decide) (by decide)) (g := (mkF m 177 #[.val (.int p0), .val (.int p1), .val (.int p2), .val (.int rr), .val (.int qq), .val (.int (p0 &&& (7 : Int32))), .unset, .val .null, .unset] [(.int rr), (.int ps9), (.ref a1589)])) rfl (by rw [hml]; rfl) (argsL := [(.ref a1589), (.int ps9), (.int rr)]) (rest := []) (lenOf pd_19 rfl) rfl (by show 2 * 0 + _ ≤ _; exact Nat.le_of_eq rfl) (hb hby at_177) (fun _ _ => ⟨rfl, e1589, (by decide : 2 + 3 ≤ _), (by decide : 40 + 24 ≤ _)⟩)
            dsimp only [Pt.U, Pt.locs, Pt.cells, Pt.slots] at X1592 l1592 y1592 z1592 st1592 hQ1592
            obtain rfl : k1592 = 5 := y1592
            obtain rfl : n1592 = 64 := z1592
            obtain ⟨wa1592, wb1592, wk1592, rfl, N1592q, K1592, hg1592, Es1592, Fv1592, Fc1592, Ab1592⟩ := hQ1592
            have N1592 : Fr n0 L1592 := by rw [l1592]; exact Fr.app N0 N1592q
            have G1595 : Go p e below A0 (T1592.setTop (mkF m 180 #[.val (.int p0), .val (.int p1), .val (.int p2), .val (.int rr), .val (.int qq), .val (.int (p0 &&& (7 : Int32))), .unset, .val .null, .unset] [(.ref wa1592)])) := fun tq kq => G1591 tq (st1592 _ kq)
            have G1596 : Go p e below A0 (T1592.setTop (mkF m 260 #[.val (.int p0), .val (.int p1), .val (.int p2), .val (.int rr), .val (.int qq), .val (.int (p0 &&& (7 : Int32))), .val (.ref wa1592), .val .null, .unset] [(.ref wa1592)])) := fun tq kq => G1595 tq (by
              refine XS.astore X1592.here hx rfl (hb hby at_180) rfl rfl (l' := #[.val (.int p0), .val (.int p1), .val (.int p2), .val (.int rr), .val (.int qq), .val (.int (p0 &&& (7 : Int32))), .val (.ref wa1592), .val .null, .unset]) rfl ?_
              refine XS.goto X1592.here hx rfl (pc0 := 182) (pc' := 258) rfl (hb hby at_182) (by decide) (by decide) ?_
              refine XS.aload X1592.here hx rfl (hb hby at_258) rfl rfl ?_
              exact kq)
            have f1598 := (Nat.le_trans f1593 K1592.1)
            have f1599 := (f1594.keep K1592 all0)
            obtain ⟨_, _, ⟨T1597, L1597, k1597, n1597⟩, -, X1597, ⟨Lc1597, hQ1597, l1597, y1597, z1597⟩, st1597⟩ := Jvm.LawKit.callS X1592 hx (y := (⟨"com/example/role_delegation/roledelegation/RevocationKind", "named", "(Ljava/lang/String;)Lcom/example/role_delegation/roledelegation/RevocationKind;"⟩ : MethodName)) hown (mvT hZ (wd hw 73 rfl)) (mvT hZ (wd hw 74 rfl)) (mvT hZ (wd hw 75 rfl)) (mvT hZ (wd hw 76 rfl)) (by decide) (backOf (W := 0) (rmNX l Z a0 hw [] va kv dp ip dw db iw ib kd ki wa1592 wb1592 wk1592 _ (8 : Int32) cs fo T1592.heap n0 f1598 hVS hEV hAV hWd hWi Es1592 Fv1592 Fc1592 hg1592 Ab1592 (by decide) (by decide) hCS hcs hSF hfo f1599) hZ (wd hw 76 rfl) (wd hw 75 rfl) (by decide) (by decide)) (g := (mkF m 260 #[.val (.int p0), .val (.int p1), .val (.int p2), .val (.int rr), .val (.int qq), .val (.int (p0 &&& (7 : Int32))), .val (.ref wa1592), .val .null, .unset] [(.ref wa1592)])) rfl (by rw [hml]; rfl) (argsL := [(.ref wa1592)]) (rest := []) (lenOf pd_20 rfl) rfl (by show 2 * 0 + _ ≤ _; exact Nat.le_of_eq rfl) (hb hby at_260) (fun _ _ => ⟨rfl, rfl, (by decide : 5 + 1 ≤ _), (by decide : 64 + 2 ≤ _)⟩)
            dsimp only [Pt.U, Pt.locs, Pt.cells, Pt.slots] at X1597 l1597 y1597 z1597 st1597 hQ1597
            obtain rfl : k1597 = 6 := y1597
            obtain rfl : n1597 = 66 := z1597
            obtain ⟨rfl, N1597q, K1597⟩ := hQ1597
            have N1597 : Fr n0 L1597 := by rw [l1597]; exact Fr.app N1592 N1597q
            have G1600 : Go p e below A0 (T1597.setTop (mkF m 263 #[.val (.int p0), .val (.int p1), .val (.int p2), .val (.int rr), .val (.int qq), .val (.int (p0 &&& (7 : Int32))), .val (.ref wa1592), .val .null, .unset] [.null])) := fun tq kq => G1596 tq (st1597 _ kq)
            have G1601 : Go p e below A0 (T1597.setTop (mkF m 273 #[.val (.int p0), .val (.int p1), .val (.int p2), .val (.int rr), .val (.int qq), .val (.int (p0 &&& (7 : Int32))), .val (.ref wa1592), .val .null, .unset] [(.int 1)])) := fun tq kq => G1600 tq (by
              refine XS.aload X1597.here hx rfl (hb hby at_263) rfl rfl ?_
              refine Jvm.RoadKit.acmp (g := (mkF m 265 #[.val (.int p0), .val (.int p1), .val (.int p2), .val (.int rr), .val (.int qq), .val (.int (p0 &&& (7 : Int32))), .val (.ref wa1592), .val .null, .unset] [.null, .null])) X1597 hx rfl rfl rfl (pc0 := 265) (pc' := 268) (same := true) rfl (hb hby at_265) rfl (decide_eq_true rfl) (by decide) (by decide) ?_
              refine XS.iconst X1597.here hx rfl (hb hby at_268) ?_
              refine XS.goto X1597.here hx rfl (pc0 := 269) (pc' := 273) rfl (hb hby at_269) (by decide) (by decide) ?_
              exact kq)
            have f1602 := (Nat.le_trans (Nat.le_trans hk1589 K1592.1) K1597.1)
            obtain ⟨fs, hr, hrun, hended, hRW⟩ := X1597.leaveW (s := s) (vm₁ := T1589.vm) hS f1602 (v := some (.int (nar .boolean (1 : Int32)))) (fun h => by rw [Bd.returns] at h; cases h)
            refine ⟨_, _, (by rw [← hA0]; exact G1601 _ (retN X1597 hx (t := .boolean) Bd.returns (by simp) (hb hby at_273) hr)), hrun, hended, _, _, rfl, ?_, hRW.1, hRW.2.1, hRW.2.2.1, hRW.2.2.2.mono (by decide) (by decide)⟩
            exact ⟨rfl, N1597⟩
          · have G1603 : Go p e below A0 (s₁.setTop (mkF m 188 #[.val (.int p0), .val (.int p1), .val (.int p2), .val (.int rr), .val (.int qq), .val (.int (p0 &&& (7 : Int32))), .unset, .val .null, .unset] [(.int 5), (.int (p0 &&& (7 : Int32)))])) := fun tq kq => G1586 tq (by
              refine XS.icmpYes X0.here hx rfl (pc0 := 166) (pc' := 185) rfl (hb hby at_166) rfl (feq hc1587).2 (by decide) (by decide) ?_
              refine XS.iload X0.here hx rfl (hb hby at_185) rfl ?_
              refine XS.iconst X0.here hx rfl (hb hby at_187) ?_
              exact kq)
            by_cases hc1604 : (p0 &&& (7 : Int32)) = (5 : Int32)
            · have G1605 : Go p e below A0 (s₁.setTop (mkF m 195 #[.val (.int p0), .val (.int p1), .val (.int p2), .val (.int rr), .val (.int qq), .val (.int (p0 &&& (7 : Int32))), .unset, .val .null, .unset] [(.int (p0 &&& (8 : Int32)))])) := fun tq kq => G1603 tq (by
                refine XS.icmpNo X0.here hx rfl (hb hby at_188) rfl (teq hc1604).2 ?_
                refine XS.iloadN X0.here hx rfl (hb hby at_191) rfl ?_
                refine XS.bipush X0.here hx rfl (hb hby at_192) ?_
                refine XS.iand X0.here hx rfl (hb hby at_194) rfl ?_
                exact kq)
              by_cases hc1606 : (p0 &&& (8 : Int32)) = (0 : Int32)
              · have G1607 : Go p e below A0 (s₁.setTop (mkF m 198 #[.val (.int p0), .val (.int p1), .val (.int p2), .val (.int rr), .val (.int qq), .val (.int (p0 &&& (7 : Int32))), .unset, .val .null, .unset] [])) := fun tq kq => G1605 tq (by
                  refine XS.ifNo X0.here hx rfl (hb hby at_195) rfl ((if0 _ _).trans (teq hc1606).2) ?_
                  exact kq)
                obtain ⟨a1608, T1608, h1608, k1608, b1608, kb1608, X1608, e1608, E1608, hS, hk1608, hZ, hown, Ea1608, Fc1608, Fv1608, Ab1608, -, -, CH1608, Lt1608, -, st1608⟩ := ldcCH (s := s) (vm0 := s.vm) X0 hx hZ hown (wd hw 120 rfl) hstr e0 hS (Nat.zero_le h0.size) hEL (List.mem_of_getElem? (i := 2) rfl) hCH (vs := [(.int 110), (.int 100), (.int 101), (.int 112), (.int 101), (.int 110), (.int 100), (.int 101), (.int 110), (.int 116)]) (z := (10 : Int32)) ⟨by decide, by decide⟩ (by decide) (by decide) (g := (mkF m 198 #[.val (.int p0), .val (.int p1), .val (.int p2), .val (.int rr), .val (.int qq), .val (.int (p0 &&& (7 : Int32))), .unset, .val .null, .unset] [])) rfl (hb hby at_198) (n := 40) (by decide) (by decide) (by decide) (by decide)
                have G1609 : Go p e below A0 (T1608.setTop (mkF m 200 #[.val (.int p0), .val (.int p1), .val (.int p2), .val (.int rr), .val (.int qq), .val (.int (p0 &&& (7 : Int32))), .unset, .val .null, .unset] [(.ref a1608)])) := fun tq kq => G1607 tq (st1608 _ kq)
                have G1610 : Go p e below A0 (T1608.setTop (mkF m 211 #[.val (.int p0), .val (.int p1), .val (.int p2), .val (.int rr), .val (.int qq), .val (.int (p0 &&& (7 : Int32))), .unset, .val .null, .unset] [(.int rr), (.int ps11), (.ref a1608)])) := fun tq kq => G1609 tq (by
                  refine XS.goto X1608.here hx rfl (pc0 := 200) (pc' := 205) rfl (hb hby at_200) (by decide) (by decide) ?_
                  refine XS.iload X1608.here hx rfl (hb hby at_205) rfl ?_
                  refine XS.bipush X1608.here hx rfl (hb hby at_207) ?_
                  refine iremM X1608 hx rfl (hb hby at_209) rfl (by decide) ?_
                  show Steps p.tables e below (T1608.setTop (mkF m 210 #[.val (.int p0), .val (.int p1), .val (.int p2), .val (.int rr), .val (.int qq), .val (.int (p0 &&& (7 : Int32))), .unset, .val .null, .unset] [(.int (qq % (11 : Int32))), (.ref a1608)])) _
                  rw [show (qq % (11 : Int32)) = ps11 from eps11.symm]
                  show Steps p.tables e below (T1608.setTop (mkF m 210 #[.val (.int p0), .val (.int p1), .val (.int p2), .val (.int rr), .val (.int qq), .val (.int (p0 &&& (7 : Int32))), .unset, .val .null, .unset] [(.int ps11), (.ref a1608)])) _
                  refine XS.iloadN X1608.here hx rfl (hb hby at_210) rfl ?_
                  exact kq)
                have f1612 := (Nat.le_trans Z0 E1608.1)
                have f1613 := (hold.ext E1608)
                obtain ⟨_, _, ⟨T1611, L1611, k1611, n1611⟩, -, X1611, ⟨Lc1611, hQ1611, l1611, y1611, z1611⟩, st1611⟩ := Jvm.LawKit.callS X1608 hx (y := (⟨"com/example/role_delegation/roledelegation/RevocationKindNamedPinLaw", "w10", "(Ljava/lang/String;IC)Ljava/lang/String;"⟩ : MethodName)) hown (mvT hZ (wd hw 113 rfl)) (mvT hZ (wd hw 114 rfl)) (mvT hZ (wd hw 11 rfl)) (mvT hZ (wd hw 115 rfl)) (by decide) (backOf (W := 0) (rmW10 l Z a0 hw [] a1608 b1608 kb1608 (own_t t_N) (10 : Int32) ps11 rr cs fo h1608 n0 f1612 Ea1608 Fv1608 Fc1608 ((Af.of Ab1608).fn own_tvN) (own_tL t_N own_tlN) lrr hCS hcs hSF hfo f1613) hZ (wd hw 115 rfl) (wd hw 11 rfl) (by decide) (by decide)) (g := (mkF m 211 #[.val (.int p0), .val (.int p1), .val (.int p2), .val (.int rr), .val (.int qq), .val (.int (p0 &&& (7 : Int32))), .unset, .val .null, .unset] [(.int rr), (.int ps11), (.ref a1608)])) rfl (by rw [hml]; rfl) (argsL := [(.ref a1608), (.int ps11), (.int rr)]) (rest := []) (lenOf pd_19 rfl) rfl (by show 2 * 0 + _ ≤ _; exact Nat.le_of_eq rfl) (hb hby at_211) (fun _ _ => ⟨rfl, e1608, (by decide : 2 + 3 ≤ _), (by decide : 44 + 26 ≤ _)⟩)
                dsimp only [Pt.U, Pt.locs, Pt.cells, Pt.slots] at X1611 l1611 y1611 z1611 st1611 hQ1611
                obtain rfl : k1611 = 5 := y1611
                obtain rfl : n1611 = 70 := z1611
                obtain ⟨wa1611, wb1611, wk1611, rfl, N1611q, K1611, hg1611, Es1611, Fv1611, Fc1611, Ab1611⟩ := hQ1611
                have N1611 : Fr n0 L1611 := by rw [l1611]; exact Fr.app N0 N1611q
                have G1614 : Go p e below A0 (T1611.setTop (mkF m 214 #[.val (.int p0), .val (.int p1), .val (.int p2), .val (.int rr), .val (.int qq), .val (.int (p0 &&& (7 : Int32))), .unset, .val .null, .unset] [(.ref wa1611)])) := fun tq kq => G1610 tq (st1611 _ kq)
                have G1615 : Go p e below A0 (T1611.setTop (mkF m 260 #[.val (.int p0), .val (.int p1), .val (.int p2), .val (.int rr), .val (.int qq), .val (.int (p0 &&& (7 : Int32))), .val (.ref wa1611), .val .null, .unset] [(.ref wa1611)])) := fun tq kq => G1614 tq (by
                  refine XS.astore X1611.here hx rfl (hb hby at_214) rfl rfl (l' := #[.val (.int p0), .val (.int p1), .val (.int p2), .val (.int rr), .val (.int qq), .val (.int (p0 &&& (7 : Int32))), .val (.ref wa1611), .val .null, .unset]) rfl ?_
                  refine XS.goto X1611.here hx rfl (pc0 := 216) (pc' := 258) rfl (hb hby at_216) (by decide) (by decide) ?_
                  refine XS.aload X1611.here hx rfl (hb hby at_258) rfl rfl ?_
                  exact kq)
                have f1617 := (Nat.le_trans f1612 K1611.1)
                have f1618 := (f1613.keep K1611 all0)
                obtain ⟨_, _, ⟨T1616, L1616, k1616, n1616⟩, -, X1616, ⟨Lc1616, hQ1616, l1616, y1616, z1616⟩, st1616⟩ := Jvm.LawKit.callS X1611 hx (y := (⟨"com/example/role_delegation/roledelegation/RevocationKind", "named", "(Ljava/lang/String;)Lcom/example/role_delegation/roledelegation/RevocationKind;"⟩ : MethodName)) hown (mvT hZ (wd hw 73 rfl)) (mvT hZ (wd hw 74 rfl)) (mvT hZ (wd hw 75 rfl)) (mvT hZ (wd hw 76 rfl)) (by decide) (backOf (W := 0) (rmNX l Z a0 hw [] va kv dp ip dw db iw ib kd ki wa1611 wb1611 wk1611 _ (10 : Int32) cs fo T1611.heap n0 f1617 hVS hEV hAV hWd hWi Es1611 Fv1611 Fc1611 hg1611 Ab1611 (by decide) (by decide) hCS hcs hSF hfo f1618) hZ (wd hw 76 rfl) (wd hw 75 rfl) (by decide) (by decide)) (g := (mkF m 260 #[.val (.int p0), .val (.int p1), .val (.int p2), .val (.int rr), .val (.int qq), .val (.int (p0 &&& (7 : Int32))), .val (.ref wa1611), .val .null, .unset] [(.ref wa1611)])) rfl (by rw [hml]; rfl) (argsL := [(.ref wa1611)]) (rest := []) (lenOf pd_20 rfl) rfl (by show 2 * 0 + _ ≤ _; exact Nat.le_of_eq rfl) (hb hby at_260) (fun _ _ => ⟨rfl, rfl, (by decide : 5 + 1 ≤ _), (by decide : 70 + 2 ≤ _)⟩)
                dsimp only [Pt.U, Pt.locs, Pt.cells, Pt.slots] at X1616 l1616 y1616 z1616 st1616 hQ1616
                obtain rfl : k1616 = 6 := y1616
                obtain rfl : n1616 = 72 := z1616
                obtain ⟨rfl, N1616q, K1616⟩ := hQ1616
                have N1616 : Fr n0 L1616 := by rw [l1616]; exact Fr.app N1611 N1616q
                have G1619 : Go p e below A0 (T1616.setTop (mkF m 263 #[.val (.int p0), .val (.int p1), .val (.int p2), .val (.int rr), .val (.int qq), .val (.int (p0 &&& (7 : Int32))), .val (.ref wa1611), .val .null, .unset] [.null])) := fun tq kq => G1615 tq (st1616 _ kq)
                have G1620 : Go p e below A0 (T1616.setTop (mkF m 273 #[.val (.int p0), .val (.int p1), .val (.int p2), .val (.int rr), .val (.int qq), .val (.int (p0 &&& (7 : Int32))), .val (.ref wa1611), .val .null, .unset] [(.int 1)])) := fun tq kq => G1619 tq (by
                  refine XS.aload X1616.here hx rfl (hb hby at_263) rfl rfl ?_
                  refine Jvm.RoadKit.acmp (g := (mkF m 265 #[.val (.int p0), .val (.int p1), .val (.int p2), .val (.int rr), .val (.int qq), .val (.int (p0 &&& (7 : Int32))), .val (.ref wa1611), .val .null, .unset] [.null, .null])) X1616 hx rfl rfl rfl (pc0 := 265) (pc' := 268) (same := true) rfl (hb hby at_265) rfl (decide_eq_true rfl) (by decide) (by decide) ?_
                  refine XS.iconst X1616.here hx rfl (hb hby at_268) ?_
                  refine XS.goto X1616.here hx rfl (pc0 := 269) (pc' := 273) rfl (hb hby at_269) (by decide) (by decide) ?_
                  exact kq)
                have f1621 := (Nat.le_trans (Nat.le_trans hk1608 K1611.1) K1616.1)
                obtain ⟨fs, hr, hrun, hended, hRW⟩ := X1616.leaveW (s := s) (vm₁ := T1608.vm) hS f1621 (v := some (.int (nar .boolean (1 : Int32)))) (fun h => by rw [Bd.returns] at h; cases h)
                refine ⟨_, _, (by rw [← hA0]; exact G1620 _ (retN X1616 hx (t := .boolean) Bd.returns (by simp) (hb hby at_273) hr)), hrun, hended, _, _, rfl, ?_, hRW.1, hRW.2.1, hRW.2.2.1, hRW.2.2.2.mono (by decide) (by decide)⟩
                exact ⟨rfl, N1616⟩
              · have G1622 : Go p e below A0 (s₁.setTop (mkF m 203 #[.val (.int p0), .val (.int p1), .val (.int p2), .val (.int rr), .val (.int qq), .val (.int (p0 &&& (7 : Int32))), .unset, .val .null, .unset] [])) := fun tq kq => G1605 tq (by
                  refine XS.ifYes X0.here hx rfl (pc0 := 195) (pc' := 203) rfl (hb hby at_195) rfl ((if0 _ _).trans (feq hc1606).2) (by decide) (by decide) ?_
                  exact kq)
                obtain ⟨a1623, T1623, h1623, k1623, b1623, kb1623, X1623, e1623, E1623, hS, hk1623, hZ, hown, Ea1623, Fc1623, Fv1623, Ab1623, -, -, CH1623, Lt1623, -, st1623⟩ := ldcCH (s := s) (vm0 := s.vm) X0 hx hZ hown (wd hw 105 rfl) hstr e0 hS (Nat.zero_le h0.size) hEL (List.mem_of_getElem? (i := 1) rfl) hCH (vs := [(.int 105), (.int 110), (.int 100), (.int 101), (.int 112), (.int 101), (.int 110), (.int 100), (.int 101), (.int 110), (.int 116)]) (z := (11 : Int32)) ⟨by decide, by decide⟩ (by decide) (by decide) (g := (mkF m 203 #[.val (.int p0), .val (.int p1), .val (.int p2), .val (.int rr), .val (.int qq), .val (.int (p0 &&& (7 : Int32))), .unset, .val .null, .unset] [])) rfl (hb hby at_203) (n := 44) (by decide) (by decide) (by decide) (by decide)
                have G1624 : Go p e below A0 (T1623.setTop (mkF m 205 #[.val (.int p0), .val (.int p1), .val (.int p2), .val (.int rr), .val (.int qq), .val (.int (p0 &&& (7 : Int32))), .unset, .val .null, .unset] [(.ref a1623)])) := fun tq kq => G1622 tq (st1623 _ kq)
                have G1625 : Go p e below A0 (T1623.setTop (mkF m 211 #[.val (.int p0), .val (.int p1), .val (.int p2), .val (.int rr), .val (.int qq), .val (.int (p0 &&& (7 : Int32))), .unset, .val .null, .unset] [(.int rr), (.int ps11), (.ref a1623)])) := fun tq kq => G1624 tq (by
                  refine XS.iload X1623.here hx rfl (hb hby at_205) rfl ?_
                  refine XS.bipush X1623.here hx rfl (hb hby at_207) ?_
                  refine iremM X1623 hx rfl (hb hby at_209) rfl (by decide) ?_
                  show Steps p.tables e below (T1623.setTop (mkF m 210 #[.val (.int p0), .val (.int p1), .val (.int p2), .val (.int rr), .val (.int qq), .val (.int (p0 &&& (7 : Int32))), .unset, .val .null, .unset] [(.int (qq % (11 : Int32))), (.ref a1623)])) _
                  rw [show (qq % (11 : Int32)) = ps11 from eps11.symm]
                  show Steps p.tables e below (T1623.setTop (mkF m 210 #[.val (.int p0), .val (.int p1), .val (.int p2), .val (.int rr), .val (.int qq), .val (.int (p0 &&& (7 : Int32))), .unset, .val .null, .unset] [(.int ps11), (.ref a1623)])) _
                  refine XS.iloadN X1623.here hx rfl (hb hby at_210) rfl ?_
                  exact kq)
                have f1627 := (Nat.le_trans Z0 E1623.1)
                have f1628 := (hold.ext E1623)
                obtain ⟨_, _, ⟨T1626, L1626, k1626, n1626⟩, -, X1626, ⟨Lc1626, hQ1626, l1626, y1626, z1626⟩, st1626⟩ := Jvm.LawKit.callS X1623 hx (y := (⟨"com/example/role_delegation/roledelegation/RevocationKindNamedPinLaw", "w10", "(Ljava/lang/String;IC)Ljava/lang/String;"⟩ : MethodName)) hown (mvT hZ (wd hw 113 rfl)) (mvT hZ (wd hw 114 rfl)) (mvT hZ (wd hw 11 rfl)) (mvT hZ (wd hw 115 rfl)) (by decide) (backOf (W := 0) (rmW10 l Z a0 hw [] a1623 b1623 kb1623 (own_t t_I) (11 : Int32) ps11 rr cs fo h1623 n0 f1627 Ea1623 Fv1623 Fc1623 ((Af.of Ab1623).fn own_tvI) (own_tL t_I own_tlI) lrr hCS hcs hSF hfo f1628) hZ (wd hw 115 rfl) (wd hw 11 rfl) (by decide) (by decide)) (g := (mkF m 211 #[.val (.int p0), .val (.int p1), .val (.int p2), .val (.int rr), .val (.int qq), .val (.int (p0 &&& (7 : Int32))), .unset, .val .null, .unset] [(.int rr), (.int ps11), (.ref a1623)])) rfl (by rw [hml]; rfl) (argsL := [(.ref a1623), (.int ps11), (.int rr)]) (rest := []) (lenOf pd_19 rfl) rfl (by show 2 * 0 + _ ≤ _; exact Nat.le_of_eq rfl) (hb hby at_211) (fun _ _ => ⟨rfl, e1623, (by decide : 2 + 3 ≤ _), (by decide : 48 + 26 ≤ _)⟩)
                dsimp only [Pt.U, Pt.locs, Pt.cells, Pt.slots] at X1626 l1626 y1626 z1626 st1626 hQ1626
                obtain rfl : k1626 = 5 := y1626
                obtain rfl : n1626 = 74 := z1626
                obtain ⟨wa1626, wb1626, wk1626, rfl, N1626q, K1626, hg1626, Es1626, Fv1626, Fc1626, Ab1626⟩ := hQ1626
                have N1626 : Fr n0 L1626 := by rw [l1626]; exact Fr.app N0 N1626q
                have G1629 : Go p e below A0 (T1626.setTop (mkF m 214 #[.val (.int p0), .val (.int p1), .val (.int p2), .val (.int rr), .val (.int qq), .val (.int (p0 &&& (7 : Int32))), .unset, .val .null, .unset] [(.ref wa1626)])) := fun tq kq => G1625 tq (st1626 _ kq)
                have G1630 : Go p e below A0 (T1626.setTop (mkF m 260 #[.val (.int p0), .val (.int p1), .val (.int p2), .val (.int rr), .val (.int qq), .val (.int (p0 &&& (7 : Int32))), .val (.ref wa1626), .val .null, .unset] [(.ref wa1626)])) := fun tq kq => G1629 tq (by
                  refine XS.astore X1626.here hx rfl (hb hby at_214) rfl rfl (l' := #[.val (.int p0), .val (.int p1), .val (.int p2), .val (.int rr), .val (.int qq), .val (.int (p0 &&& (7 : Int32))), .val (.ref wa1626), .val .null, .unset]) rfl ?_
                  refine XS.goto X1626.here hx rfl (pc0 := 216) (pc' := 258) rfl (hb hby at_216) (by decide) (by decide) ?_
                  refine XS.aload X1626.here hx rfl (hb hby at_258) rfl rfl ?_
                  exact kq)
                have f1632 := (Nat.le_trans f1627 K1626.1)
                have f1633 := (f1628.keep K1626 all0)
                obtain ⟨_, _, ⟨T1631, L1631, k1631, n1631⟩, -, X1631, ⟨Lc1631, hQ1631, l1631, y1631, z1631⟩, st1631⟩ := Jvm.LawKit.callS X1626 hx (y := (⟨"com/example/role_delegation/roledelegation/RevocationKind", "named", "(Ljava/lang/String;)Lcom/example/role_delegation/roledelegation/RevocationKind;"⟩ : MethodName)) hown (mvT hZ (wd hw 73 rfl)) (mvT hZ (wd hw 74 rfl)) (mvT hZ (wd hw 75 rfl)) (mvT hZ (wd hw 76 rfl)) (by decide) (backOf (W := 0) (rmNX l Z a0 hw [] va kv dp ip dw db iw ib kd ki wa1626 wb1626 wk1626 _ (10 : Int32) cs fo T1626.heap n0 f1632 hVS hEV hAV hWd hWi Es1626 Fv1626 Fc1626 hg1626 Ab1626 (by decide) (by decide) hCS hcs hSF hfo f1633) hZ (wd hw 76 rfl) (wd hw 75 rfl) (by decide) (by decide)) (g := (mkF m 260 #[.val (.int p0), .val (.int p1), .val (.int p2), .val (.int rr), .val (.int qq), .val (.int (p0 &&& (7 : Int32))), .val (.ref wa1626), .val .null, .unset] [(.ref wa1626)])) rfl (by rw [hml]; rfl) (argsL := [(.ref wa1626)]) (rest := []) (lenOf pd_20 rfl) rfl (by show 2 * 0 + _ ≤ _; exact Nat.le_of_eq rfl) (hb hby at_260) (fun _ _ => ⟨rfl, rfl, (by decide : 5 + 1 ≤ _), (by decide : 74 + 2 ≤ _)⟩)
                dsimp only [Pt.U, Pt.locs, Pt.cells, Pt.slots] at X1631 l1631 y1631 z1631 st1631 hQ1631
                obtain rfl : k1631 = 6 := y1631
                obtain rfl : n1631 = 76 := z1631
                obtain ⟨rfl, N1631q, K1631⟩ := hQ1631
                have N1631 : Fr n0 L1631 := by rw [l1631]; exact Fr.app N1626 N1631q
                have G1634 : Go p e below A0 (T1631.setTop (mkF m 263 #[.val (.int p0), .val (.int p1), .val (.int p2), .val (.int rr), .val (.int qq), .val (.int (p0 &&& (7 : Int32))), .val (.ref wa1626), .val .null, .unset] [.null])) := fun tq kq => G1630 tq (st1631 _ kq)
                have G1635 : Go p e below A0 (T1631.setTop (mkF m 273 #[.val (.int p0), .val (.int p1), .val (.int p2), .val (.int rr), .val (.int qq), .val (.int (p0 &&& (7 : Int32))), .val (.ref wa1626), .val .null, .unset] [(.int 1)])) := fun tq kq => G1634 tq (by
                  refine XS.aload X1631.here hx rfl (hb hby at_263) rfl rfl ?_
                  refine Jvm.RoadKit.acmp (g := (mkF m 265 #[.val (.int p0), .val (.int p1), .val (.int p2), .val (.int rr), .val (.int qq), .val (.int (p0 &&& (7 : Int32))), .val (.ref wa1626), .val .null, .unset] [.null, .null])) X1631 hx rfl rfl rfl (pc0 := 265) (pc' := 268) (same := true) rfl (hb hby at_265) rfl (decide_eq_true rfl) (by decide) (by decide) ?_
                  refine XS.iconst X1631.here hx rfl (hb hby at_268) ?_
                  refine XS.goto X1631.here hx rfl (pc0 := 269) (pc' := 273) rfl (hb hby at_269) (by decide) (by decide) ?_
                  exact kq)
                have f1636 := (Nat.le_trans (Nat.le_trans hk1623 K1626.1) K1631.1)
                obtain ⟨fs, hr, hrun, hended, hRW⟩ := X1631.leaveW (s := s) (vm₁ := T1623.vm) hS f1636 (v := some (.int (nar .boolean (1 : Int32)))) (fun h => by rw [Bd.returns] at h; cases h)
                refine ⟨_, _, (by rw [← hA0]; exact G1635 _ (retN X1631 hx (t := .boolean) Bd.returns (by simp) (hb hby at_273) hr)), hrun, hended, _, _, rfl, ?_, hRW.1, hRW.2.1, hRW.2.2.1, hRW.2.2.2.mono (by decide) (by decide)⟩
                exact ⟨rfl, N1631⟩
            · have G1637 : Go p e below A0 (s₁.setTop (mkF m 223 #[.val (.int p0), .val (.int p1), .val (.int p2), .val (.int rr), .val (.int qq), .val (.int (p0 &&& (7 : Int32))), .unset, .val .null, .unset] [(.int 6), (.int (p0 &&& (7 : Int32)))])) := fun tq kq => G1603 tq (by
                refine XS.icmpYes X0.here hx rfl (pc0 := 188) (pc' := 219) rfl (hb hby at_188) rfl (feq hc1604).2 (by decide) (by decide) ?_
                refine XS.iload X0.here hx rfl (hb hby at_219) rfl ?_
                refine XS.bipush X0.here hx rfl (hb hby at_221) ?_
                exact kq)
              by_cases hc1638 : (p0 &&& (7 : Int32)) = (6 : Int32)
              · have G1639 : Go p e below A0 (s₁.setTop (mkF m 227 #[.val (.int p0), .val (.int p1), .val (.int p2), .val (.int rr), .val (.int qq), .val (.int (p0 &&& (7 : Int32))), .unset, .val .null, .unset] [(.int rr)])) := fun tq kq => G1637 tq (by
                  refine XS.icmpNo X0.here hx rfl (hb hby at_223) rfl (teq hc1638).2 ?_
                  refine XS.iloadN X0.here hx rfl (hb hby at_226) rfl ?_
                  exact kq)
                obtain ⟨_, _, ⟨T1640, L1640, k1640, n1640⟩, -, X1640, ⟨Lc1640, hQ1640, l1640, y1640, z1640⟩, st1640⟩ := Jvm.LawKit.callS X0 hx (y := (⟨"java/lang/String", "valueOf", "(C)Ljava/lang/String;"⟩ : MethodName)) hown (mvT hZ (wd hw 121 rfl)) (mvT hZ (wd hw 122 rfl)) (mvT hZ (wd hw 2 rfl)) (mvT hZ (wd hw 123 rfl)) (by decide) (backOf (W := 0) (rmVO l Z a0 hw [] rr cs fo h0 n0 Z0 lrr hCS hcs hSF hfo hold) hZ (wd hw 123 rfl) (wd hw 2 rfl) (by decide) (by decide)) (g := (mkF m 227 #[.val (.int p0), .val (.int p1), .val (.int p2), .val (.int rr), .val (.int qq), .val (.int (p0 &&& (7 : Int32))), .unset, .val .null, .unset] [(.int rr)])) rfl (by rw [hml]; rfl) (argsL := [(.int rr)]) (rest := []) (lenOf pd_21 rfl) rfl (by show 2 * 0 + _ ≤ _; exact Nat.le_of_eq rfl) (hb hby at_227) (fun _ _ => ⟨rfl, e0, (by decide : 0 + 2 ≤ _), (by decide : 0 + 5 ≤ _)⟩)
                dsimp only [Pt.U, Pt.locs, Pt.cells, Pt.slots] at X1640 l1640 y1640 z1640 st1640 hQ1640
                obtain rfl : k1640 = 2 := y1640
                obtain rfl : n1640 = 5 := z1640
                obtain ⟨wa1640, wb1640, wk1640, rfl, N1640q, K1640, hg1640, Es1640, Fv1640, Fc1640, Ab1640⟩ := hQ1640
                have N1640 : Fr n0 L1640 := by rw [l1640]; exact Fr.app N0 N1640q
                have G1641 : Go p e below A0 (T1640.setTop (mkF m 230 #[.val (.int p0), .val (.int p1), .val (.int p2), .val (.int rr), .val (.int qq), .val (.int (p0 &&& (7 : Int32))), .unset, .val .null, .unset] [(.ref wa1640)])) := fun tq kq => G1639 tq (st1640 _ kq)
                have G1642 : Go p e below A0 (T1640.setTop (mkF m 260 #[.val (.int p0), .val (.int p1), .val (.int p2), .val (.int rr), .val (.int qq), .val (.int (p0 &&& (7 : Int32))), .val (.ref wa1640), .val .null, .unset] [(.ref wa1640)])) := fun tq kq => G1641 tq (by
                  refine XS.astore X1640.here hx rfl (hb hby at_230) rfl rfl (l' := #[.val (.int p0), .val (.int p1), .val (.int p2), .val (.int rr), .val (.int qq), .val (.int (p0 &&& (7 : Int32))), .val (.ref wa1640), .val .null, .unset]) rfl ?_
                  refine XS.goto X1640.here hx rfl (pc0 := 232) (pc' := 258) rfl (hb hby at_232) (by decide) (by decide) ?_
                  refine XS.aload X1640.here hx rfl (hb hby at_258) rfl rfl ?_
                  exact kq)
                have f1644 := (Nat.le_trans Z0 K1640.1)
                have f1645 := (hold.keep K1640 all0)
                obtain ⟨_, _, ⟨T1643, L1643, k1643, n1643⟩, -, X1643, ⟨Lc1643, hQ1643, l1643, y1643, z1643⟩, st1643⟩ := Jvm.LawKit.callS X1640 hx (y := (⟨"com/example/role_delegation/roledelegation/RevocationKind", "named", "(Ljava/lang/String;)Lcom/example/role_delegation/roledelegation/RevocationKind;"⟩ : MethodName)) hown (mvT hZ (wd hw 73 rfl)) (mvT hZ (wd hw 74 rfl)) (mvT hZ (wd hw 75 rfl)) (mvT hZ (wd hw 76 rfl)) (by decide) (backOf (W := 0) (rmNX l Z a0 hw [] va kv dp ip dw db iw ib kd ki wa1640 wb1640 wk1640 _ (1 : Int32) cs fo T1640.heap n0 f1644 hVS hEV hAV hWd hWi Es1640 Fv1640 Fc1640 hg1640 Ab1640 (by decide) (by decide) hCS hcs hSF hfo f1645) hZ (wd hw 76 rfl) (wd hw 75 rfl) (by decide) (by decide)) (g := (mkF m 260 #[.val (.int p0), .val (.int p1), .val (.int p2), .val (.int rr), .val (.int qq), .val (.int (p0 &&& (7 : Int32))), .val (.ref wa1640), .val .null, .unset] [(.ref wa1640)])) rfl (by rw [hml]; rfl) (argsL := [(.ref wa1640)]) (rest := []) (lenOf pd_20 rfl) rfl (by show 2 * 0 + _ ≤ _; exact Nat.le_of_eq rfl) (hb hby at_260) (fun _ _ => ⟨rfl, rfl, (by decide : 2 + 1 ≤ _), (by decide : 5 + 2 ≤ _)⟩)
                dsimp only [Pt.U, Pt.locs, Pt.cells, Pt.slots] at X1643 l1643 y1643 z1643 st1643 hQ1643
                obtain rfl : k1643 = 3 := y1643
                obtain rfl : n1643 = 7 := z1643
                obtain ⟨rfl, N1643q, K1643⟩ := hQ1643
                have N1643 : Fr n0 L1643 := by rw [l1643]; exact Fr.app N1640 N1643q
                have G1646 : Go p e below A0 (T1643.setTop (mkF m 263 #[.val (.int p0), .val (.int p1), .val (.int p2), .val (.int rr), .val (.int qq), .val (.int (p0 &&& (7 : Int32))), .val (.ref wa1640), .val .null, .unset] [.null])) := fun tq kq => G1642 tq (st1643 _ kq)
                have G1647 : Go p e below A0 (T1643.setTop (mkF m 273 #[.val (.int p0), .val (.int p1), .val (.int p2), .val (.int rr), .val (.int qq), .val (.int (p0 &&& (7 : Int32))), .val (.ref wa1640), .val .null, .unset] [(.int 1)])) := fun tq kq => G1646 tq (by
                  refine XS.aload X1643.here hx rfl (hb hby at_263) rfl rfl ?_
                  refine Jvm.RoadKit.acmp (g := (mkF m 265 #[.val (.int p0), .val (.int p1), .val (.int p2), .val (.int rr), .val (.int qq), .val (.int (p0 &&& (7 : Int32))), .val (.ref wa1640), .val .null, .unset] [.null, .null])) X1643 hx rfl rfl rfl (pc0 := 265) (pc' := 268) (same := true) rfl (hb hby at_265) rfl (decide_eq_true rfl) (by decide) (by decide) ?_
                  refine XS.iconst X1643.here hx rfl (hb hby at_268) ?_
                  refine XS.goto X1643.here hx rfl (pc0 := 269) (pc' := 273) rfl (hb hby at_269) (by decide) (by decide) ?_
                  exact kq)
                have f1648 := (Nat.le_trans (Nat.le_trans (Nat.zero_le h0.size) K1640.1) K1643.1)
                obtain ⟨fs, hr, hrun, hended, hRW⟩ := X1643.leaveW (s := s) (vm₁ := s.vm) hS f1648 (v := some (.int (nar .boolean (1 : Int32)))) (fun h => by rw [Bd.returns] at h; cases h)
                refine ⟨_, _, (by rw [← hA0]; exact G1647 _ (retN X1643 hx (t := .boolean) Bd.returns (by simp) (hb hby at_273) hr)), hrun, hended, _, _, rfl, ?_, hRW.1, hRW.2.1, hRW.2.2.1, hRW.2.2.2.mono (by decide) (by decide)⟩
                exact ⟨rfl, N1643⟩
              · have G1649 : Go p e below A0 (s₁.setTop (mkF m 239 #[.val (.int p0), .val (.int p1), .val (.int p2), .val (.int rr), .val (.int qq), .val (.int (p0 &&& (7 : Int32))), .unset, .val .null, .unset] [(.int (qq &&& (1 : Int32)))])) := fun tq kq => G1637 tq (by
                  refine XS.icmpYes X0.here hx rfl (pc0 := 223) (pc' := 235) rfl (hb hby at_223) rfl (feq hc1638).2 (by decide) (by decide) ?_
                  refine XS.iload X0.here hx rfl (hb hby at_235) rfl ?_
                  refine XS.iconst X0.here hx rfl (hb hby at_237) ?_
                  refine XS.iand X0.here hx rfl (hb hby at_238) rfl ?_
                  exact kq)
                by_cases hc1650 : (qq &&& (1 : Int32)) = (0 : Int32)
                · have G1651 : Go p e below A0 (s₁.setTop (mkF m 242 #[.val (.int p0), .val (.int p1), .val (.int p2), .val (.int rr), .val (.int qq), .val (.int (p0 &&& (7 : Int32))), .unset, .val .null, .unset] [])) := fun tq kq => G1649 tq (by
                    refine XS.ifNo X0.here hx rfl (hb hby at_239) rfl ((if0 _ _).trans (teq hc1650).2) ?_
                    exact kq)
                  obtain ⟨T1652, h1652, X1652, e1652, E1652, A1652, D1652, -, st1652⟩ := newO X0 hx hZ hown (wd hw 52 rfl) (wd hw 3 rfl) (wd hw 2 rfl) e0 (g := (mkF m 242 #[.val (.int p0), .val (.int p1), .val (.int p2), .val (.int rr), .val (.int qq), .val (.int (p0 &&& (7 : Int32))), .unset, .val .null, .unset] [])) rfl (hb hby at_242) (by decide) (by decide)
                  obtain ⟨b1652, g1652⟩ : ∃ z, z = h0.size := ⟨_, rfl⟩
                  rw [← g1652] at A1652 D1652 st1652
                  have sz_b1652 : h0.size ≤ b1652 := Nat.le_trans (Nat.le_refl h0.size) (Nat.le_of_eq g1652.symm)
                  have g_b1652 : n0 ≤ b1652 := Nat.le_trans Z0 (Nat.le_of_eq g1652.symm)
                  have F1652_value : Fld Z h1652 b1652 "java/lang/String" "value" "[B" .null := D1652 (Or.inr (wd hw 5 rfl)) (ty := (.array .byte)) (by decide)
                  have F1652_coder : Fld Z h1652 b1652 "java/lang/String" "coder" "B" (.int 0) := D1652 (Or.inr (wd hw 6 rfl)) (ty := .byte) (by decide)
                  have G1653 : Go p e below A0 (T1652.setTop (mkF m 245 #[.val (.int p0), .val (.int p1), .val (.int p2), .val (.int rr), .val (.int qq), .val (.int (p0 &&& (7 : Int32))), .unset, .val .null, .unset] [(.ref b1652)])) := fun tq kq => G1651 tq (st1652 _ kq)
                  have G1654 : Go p e below A0 (T1652.setTop (mkF m 247 #[.val (.int p0), .val (.int p1), .val (.int p2), .val (.int rr), .val (.int qq), .val (.int (p0 &&& (7 : Int32))), .unset, .val .null, .unset] [(.int 0), (.ref b1652), (.ref b1652)])) := fun tq kq => G1653 tq (by
                    refine XS.dup X1652.here hx rfl (hb hby at_245) rfl rfl ?_
                    refine XS.iconst X1652.here hx rfl (hb hby at_246) ?_
                    exact kq)
                  have f1656 := (Nat.le_trans Z0 E1652.1)
                  obtain ⟨T1655, h1655, k1655, X1655, e1655, E1655, A1655, st1655⟩ := newP X1652 hx hZ (wd hw 13 rfl) e1652 (g := (mkF m 247 #[.val (.int p0), .val (.int p1), .val (.int p2), .val (.int rr), .val (.int qq), .val (.int (p0 &&& (7 : Int32))), .unset, .val .null, .unset] [(.int 0), (.ref b1652), (.ref b1652)])) rfl (hb hby at_247) rfl (by decide) (cap := 0) (by decide) (by decide) (by decide) (by decide)
                  obtain ⟨b1655, g1655⟩ : ∃ z, z = h1652.size := ⟨_, rfl⟩
                  rw [← g1655] at A1655 st1655
                  have f1657 := (Nat.le_trans (Nat.le_refl h0.size) E1652.1)
                  have sz_b1655 : h0.size ≤ b1655 := Nat.le_trans f1657 (Nat.le_of_eq g1655.symm)
                  have g_b1655 : n0 ≤ b1655 := Nat.le_trans f1656 (Nat.le_of_eq g1655.symm)
                  have lt_b1652_b1655 : b1652 < b1655 := Nat.lt_of_lt_of_le A1652.lt (Nat.le_of_eq g1655.symm)
                  have V1655 : Arv Z h1655 b1655 k1655 .char (0 : Int32) [] (.int 0) := (Arv.new A1655 (by decide)).pad (pad_rep [] (.int 0) 0)
                  have G1658 : Go p e below A0 (T1655.setTop (mkF m 249 #[.val (.int p0), .val (.int p1), .val (.int p2), .val (.int rr), .val (.int qq), .val (.int (p0 &&& (7 : Int32))), .unset, .val .null, .unset] [(.ref b1655), (.ref b1652), (.ref b1652)])) := fun tq kq => G1654 tq (st1655 _ kq)
                  have f1660 := (Nat.le_trans f1656 E1655.1)
                  have f1661 := (A1652.ext E1655)
                  have f1662 := (F1652_value.ext E1655)
                  have f1663 := (F1652_coder.ext E1655)
                  have f1664 := ((hold.ext E1652).ext E1655)
                  have f1665 := (CHv.ext E1655 (CHv.ext E1652 hCH))
                  obtain ⟨_, vq1659, ⟨T1659, L1659, k1659, n1659⟩, -, X1659, hS1659, hle1659, ⟨Lc1659, hQ1659, l1659, y1659, z1659⟩, st1659⟩ := Stand.specialBackS (s := s.setVm s.vm) X1655 hx (y := (⟨"java/lang/String", "<init>", "([C)V"⟩ : MethodName)) rfl hown (mvT hZ (wd hw 53 rfl)) (mvT hZ (wd hw 54 rfl)) (mvT hZ (wd hw 55 rfl)) (by decide) (own_backC (s := s) (vm0 := s.vm) (EL := consts_1) (W := 1) (rmH0 l Z a0 hw [] b1652 b1655 k1655   cs fo h1655 n0 f1660 f1661 g_b1652 f1662 f1663 V1655 (Ne.symm (Nat.ne_of_lt lt_b1652_b1655))   hCS hcs hSF hfo f1664) hZ (wd hw 55 rfl) (wd hw 2 rfl) (by decide) (by decide) hEL f1665) (g := (mkF m 249 #[.val (.int p0), .val (.int p1), .val (.int p2), .val (.int rr), .val (.int qq), .val (.int (p0 &&& (7 : Int32))), .unset, .val .null, .unset] [(.ref b1655), (.ref b1652), (.ref b1652)])) rfl (by rw [hml]; rfl) (Steps.refl _) (a := b1652) (argsL := [(.ref b1655)]) (rest := [(.ref b1652)]) (lenOf pd_12 rfl) rfl (by show 2 * 0 + _ ≤ _; exact Nat.le_of_eq rfl) (hb hby at_249) (fun _ _ => ⟨rfl, e1655, (by decide : 2 + 2 ≤ _), (by decide : 4 + 4 ≤ _)⟩)
                  dsimp only [Pt.U, Pt.locs, Pt.cells, Pt.slots] at X1659 l1659 y1659 z1659 st1659 hQ1659 hS1659 hle1659
                  obtain rfl : k1659 = 4 := y1659
                  obtain rfl : n1659 = 8 := z1659
                  have hZ : Z.Warmed39 T1659.vm := State.Warmed39.trans (t := s.setVm s.vm) hZ hS1659.1
                  have hown : (s.setVm T1659.vm).vm.findClass "com/example/role_delegation/roledelegation/RevocationKindNamedPinLaw" = some m.cls := by show T1659.vm.findClass _ = _; rw [hS1659.1.alike.findClass]; exact hown
                  have hS := hS1659
                  obtain ⟨rfl, N1659q, K1659, bb1659, kk1659, Fv1659, Fc1659, Ab1659⟩ := hQ1659
                  have N1659 : Fr n0 L1659 := by rw [l1659]; exact Fr.app N0 N1659q
                  have G1666 : Go p e below A0 (T1659.setTop (mkF m 252 #[.val (.int p0), .val (.int p1), .val (.int p2), .val (.int rr), .val (.int qq), .val (.int (p0 &&& (7 : Int32))), .unset, .val .null, .unset] [(.ref b1652)])) := fun tq kq => G1658 tq (st1659.trans kq)
                  have G1667 : Go p e below A0 (T1659.setTop (mkF m 260 #[.val (.int p0), .val (.int p1), .val (.int p2), .val (.int rr), .val (.int qq), .val (.int (p0 &&& (7 : Int32))), .val (.ref b1652), .val .null, .unset] [(.ref b1652)])) := fun tq kq => G1666 tq (by
                    refine XS.goto X1659.here hx rfl (pc0 := 252) (pc' := 256) rfl (hb hby at_252) (by decide) (by decide) ?_
                    refine XS.astore X1659.here hx rfl (hb hby at_256) rfl rfl (l' := #[.val (.int p0), .val (.int p1), .val (.int p2), .val (.int rr), .val (.int qq), .val (.int (p0 &&& (7 : Int32))), .val (.ref b1652), .val .null, .unset]) rfl ?_
                    refine XS.aload X1659.here hx rfl (hb hby at_258) rfl rfl ?_
                    exact kq)
                  have f1669 := (Nat.le_trans f1660 K1659.1)
                  have f1670 := (f1661.keep K1659)
                  have f1671 := (f1664.keep K1659 (allS g_b1652 all0))
                  obtain ⟨_, _, ⟨T1668, L1668, k1668, n1668⟩, -, X1668, ⟨Lc1668, hQ1668, l1668, y1668, z1668⟩, st1668⟩ := Jvm.LawKit.callS X1659 hx (y := (⟨"com/example/role_delegation/roledelegation/RevocationKind", "named", "(Ljava/lang/String;)Lcom/example/role_delegation/roledelegation/RevocationKind;"⟩ : MethodName)) hown (mvT hZ (wd hw 73 rfl)) (mvT hZ (wd hw 74 rfl)) (mvT hZ (wd hw 75 rfl)) (mvT hZ (wd hw 76 rfl)) (by decide) (backOf (W := 0) (rmNX l Z a0 hw [] va kv dp ip dw db iw ib kd ki b1652 bb1659 kk1659 _ (0 : Int32) cs fo T1659.heap n0 f1669 hVS hEV hAV hWd hWi f1670 Fv1659 Fc1659 g_b1652 Ab1659 (by decide) (by decide) hCS hcs hSF hfo f1671) hZ (wd hw 76 rfl) (wd hw 75 rfl) (by decide) (by decide)) (g := (mkF m 260 #[.val (.int p0), .val (.int p1), .val (.int p2), .val (.int rr), .val (.int qq), .val (.int (p0 &&& (7 : Int32))), .val (.ref b1652), .val .null, .unset] [(.ref b1652)])) rfl (by rw [hml]; rfl) (argsL := [(.ref b1652)]) (rest := []) (lenOf pd_20 rfl) rfl (by show 2 * 0 + _ ≤ _; exact Nat.le_of_eq rfl) (hb hby at_260) (fun _ _ => ⟨rfl, rfl, (by decide : 4 + 1 ≤ _), (by decide : 8 + 2 ≤ _)⟩)
                  dsimp only [Pt.U, Pt.locs, Pt.cells, Pt.slots] at X1668 l1668 y1668 z1668 st1668 hQ1668
                  obtain rfl : k1668 = 5 := y1668
                  obtain rfl : n1668 = 10 := z1668
                  obtain ⟨rfl, N1668q, K1668⟩ := hQ1668
                  have N1668 : Fr n0 L1668 := by rw [l1668]; exact Fr.app N1659 N1668q
                  have G1672 : Go p e below A0 (T1668.setTop (mkF m 263 #[.val (.int p0), .val (.int p1), .val (.int p2), .val (.int rr), .val (.int qq), .val (.int (p0 &&& (7 : Int32))), .val (.ref b1652), .val .null, .unset] [.null])) := fun tq kq => G1667 tq (st1668 _ kq)
                  have G1673 : Go p e below A0 (T1668.setTop (mkF m 273 #[.val (.int p0), .val (.int p1), .val (.int p2), .val (.int rr), .val (.int qq), .val (.int (p0 &&& (7 : Int32))), .val (.ref b1652), .val .null, .unset] [(.int 1)])) := fun tq kq => G1672 tq (by
                    refine XS.aload X1668.here hx rfl (hb hby at_263) rfl rfl ?_
                    refine Jvm.RoadKit.acmp (g := (mkF m 265 #[.val (.int p0), .val (.int p1), .val (.int p2), .val (.int rr), .val (.int qq), .val (.int (p0 &&& (7 : Int32))), .val (.ref b1652), .val .null, .unset] [.null, .null])) X1668 hx rfl rfl rfl (pc0 := 265) (pc' := 268) (same := true) rfl (hb hby at_265) rfl (decide_eq_true rfl) (by decide) (by decide) ?_
                    refine XS.iconst X1668.here hx rfl (hb hby at_268) ?_
                    refine XS.goto X1668.here hx rfl (pc0 := 269) (pc' := 273) rfl (hb hby at_269) (by decide) (by decide) ?_
                    exact kq)
                  have f1674 := (Nat.le_trans (Nat.le_refl _) K1668.1)
                  obtain ⟨fs, hr, hrun, hended, hRW⟩ := X1668.leaveW (s := s) (vm₁ := T1659.vm) hS f1674 (v := some (.int (nar .boolean (1 : Int32)))) (fun h => by rw [Bd.returns] at h; cases h)
                  refine ⟨_, _, (by rw [← hA0]; exact G1673 _ (retN X1668 hx (t := .boolean) Bd.returns (by simp) (hb hby at_273) hr)), hrun, hended, _, _, rfl, ?_, hRW.1, hRW.2.1, hRW.2.2.1, hRW.2.2.2.mono (by decide) (by decide)⟩
                  exact ⟨rfl, N1668⟩
                · have G1675 : Go p e below A0 (s₁.setTop (mkF m 260 #[.val (.int p0), .val (.int p1), .val (.int p2), .val (.int rr), .val (.int qq), .val (.int (p0 &&& (7 : Int32))), .val .null, .val .null, .unset] [.null])) := fun tq kq => G1649 tq (by
                    refine XS.ifYes X0.here hx rfl (pc0 := 239) (pc' := 255) rfl (hb hby at_239) rfl ((if0 _ _).trans (feq hc1650).2) (by decide) (by decide) ?_
                    refine XS.aconstNull X0.here hx rfl (hb hby at_255) ?_
                    refine XS.astore X0.here hx rfl (hb hby at_256) rfl rfl (l' := #[.val (.int p0), .val (.int p1), .val (.int p2), .val (.int rr), .val (.int qq), .val (.int (p0 &&& (7 : Int32))), .val .null, .val .null, .unset]) rfl ?_
                    refine XS.aload X0.here hx rfl (hb hby at_258) rfl rfl ?_
                    exact kq)
                  obtain ⟨_, _, ⟨T1676, L1676, k1676, n1676⟩, -, X1676, ⟨Lc1676, hQ1676, l1676, y1676, z1676⟩, st1676⟩ := Jvm.LawKit.callS X0 hx (y := (⟨"com/example/role_delegation/roledelegation/RevocationKind", "named", "(Ljava/lang/String;)Lcom/example/role_delegation/roledelegation/RevocationKind;"⟩ : MethodName)) hown (mvT hZ (wd hw 73 rfl)) (mvT hZ (wd hw 74 rfl)) (mvT hZ (wd hw 75 rfl)) (mvT hZ (wd hw 76 rfl)) (by decide) (backOf (W := 0) (rmNN l Z a0 hw [] va kv dp ip dw db iw ib kd ki cs fo h0 n0 Z0 hVS hEV hAV hWd hWi hCS hcs hSF hfo hold) hZ (wd hw 76 rfl) (wd hw 75 rfl) (by decide) (by decide)) (g := (mkF m 260 #[.val (.int p0), .val (.int p1), .val (.int p2), .val (.int rr), .val (.int qq), .val (.int (p0 &&& (7 : Int32))), .val .null, .val .null, .unset] [.null])) rfl (by rw [hml]; rfl) (argsL := [.null]) (rest := []) (lenOf pd_20 rfl) rfl (by show 2 * 0 + _ ≤ _; exact Nat.le_of_eq rfl) (hb hby at_260) (fun _ _ => ⟨rfl, e0, (by decide : 0 + 1 ≤ _), (by decide : 0 + 2 ≤ _)⟩)
                  dsimp only [Pt.U, Pt.locs, Pt.cells, Pt.slots] at X1676 l1676 y1676 z1676 st1676 hQ1676
                  obtain rfl : k1676 = 1 := y1676
                  obtain rfl : n1676 = 2 := z1676
                  obtain ⟨rfl, N1676q, K1676⟩ := hQ1676
                  have N1676 : Fr n0 L1676 := by rw [l1676]; exact Fr.app N0 N1676q
                  have G1677 : Go p e below A0 (T1676.setTop (mkF m 263 #[.val (.int p0), .val (.int p1), .val (.int p2), .val (.int rr), .val (.int qq), .val (.int (p0 &&& (7 : Int32))), .val .null, .val .null, .unset] [.null])) := fun tq kq => G1675 tq (st1676 _ kq)
                  have G1678 : Go p e below A0 (T1676.setTop (mkF m 273 #[.val (.int p0), .val (.int p1), .val (.int p2), .val (.int rr), .val (.int qq), .val (.int (p0 &&& (7 : Int32))), .val .null, .val .null, .unset] [(.int 1)])) := fun tq kq => G1677 tq (by
                    refine XS.aload X1676.here hx rfl (hb hby at_263) rfl rfl ?_
                    refine Jvm.RoadKit.acmp (g := (mkF m 265 #[.val (.int p0), .val (.int p1), .val (.int p2), .val (.int rr), .val (.int qq), .val (.int (p0 &&& (7 : Int32))), .val .null, .val .null, .unset] [.null, .null])) X1676 hx rfl rfl rfl (pc0 := 265) (pc' := 268) (same := true) rfl (hb hby at_265) rfl (decide_eq_true rfl) (by decide) (by decide) ?_
                    refine XS.iconst X1676.here hx rfl (hb hby at_268) ?_
                    refine XS.goto X1676.here hx rfl (pc0 := 269) (pc' := 273) rfl (hb hby at_269) (by decide) (by decide) ?_
                    exact kq)
                  have f1679 := (Nat.le_trans (Nat.zero_le h0.size) K1676.1)
                  obtain ⟨fs, hr, hrun, hended, hRW⟩ := X1676.leaveW (s := s) (vm₁ := s.vm) hS f1679 (v := some (.int (nar .boolean (1 : Int32)))) (fun h => by rw [Bd.returns] at h; cases h)
                  refine ⟨_, _, (by rw [← hA0]; exact G1678 _ (retN X1676 hx (t := .boolean) Bd.returns (by simp) (hb hby at_273) hr)), hrun, hended, _, _, rfl, ?_, hRW.1, hRW.2.1, hRW.2.2.1, hRW.2.2.2.mono (by decide) (by decide)⟩
                  exact ⟨rfl, N1676⟩
set_option maxRecDepth 65536 in
set_option maxHeartbeats 40000000 in
theorem comes_1 {Post : Tables → Env → Array Value → State → Outcome → State → Prop} (hpost : ∀ tb e args s v u, (limb_1_1.after args s (.returned v) u = true ∧ limb_1_2.after args s (.returned v) u = true ∧ True) → ReturnedEndW s (.returned v) u (Jvm.fieldLocs frame_1_writes args s ++ Jvm.arrayLocs frame_1_arrays args s ++ Jvm.staticLocs frame_1_statics s) 24 4288 → Post tb e args s (.returned v) u) :
    ArmFor flags0 classFile x code maxLocals ret World_1 tables_1 room_1 Calls_1 rest_1 Pre_1 Post := by
  intro l hfl _ _ p e ha hc hk s m args below hf hA hF happ hP
  obtain ⟨hcalls, hrest, hpre⟩ := hP
  obtain ⟨-, -, -, hnamed, -, -, -, hat⟩ := (Spec.applies_iff hf).mp happ
  obtain ⟨hg, hn⟩ := and_e (Cond.before_iff.mp (show (Jvm.Cond.and given_1 narrow_1).before args s = true from hpre))
  obtain ⟨g1, g2⟩ := and_e hg
  obtain ⟨g3, g4⟩ := and_e g2
  obtain ⟨g5, g6⟩ := and_e g4
  obtain ⟨w0, w1, w2, rfl⟩ : ∃ w0 w1 w2 : Value, args = #[w0, w1, w2] := by
    have hs : args.size = 3 := by simpa [Cond.value, given_1] using g1
    obtain ⟨L⟩ := args
    match L, hs with
    | [w0, w1, w2], _ => exact ⟨w0, w1, w2, rfl⟩
  have hw := fun d (hd : d ∈ tables_1) => atoms_spec (ws := Jvm.Cond.code x code maxLocals ret :: tables_1) hat d (List.mem_cons_of_mem _ hd)
  have hfit : Fit s := fun {y c} hc i hi => by
    obtain ⟨ha, rfl⟩ := Array.getElem?_eq_some_iff.mp hc
    have q := List.all_eq_true.mp ((Array.all_eq_true_iff_forall_mem.mp hF) _ (Array.getElem_mem ha)) i (List.mem_range.mpr hi)
    simpa [Array.getElem?_eq_getElem hi] using q
  obtain ⟨hsets, hown0⟩ := atoms_of _ (rest_1_c_eq ▸ (show rest_1_c.before _ s = true from hrest))
  have hr0 := Cond.before_iff.mp hown0
  obtain ⟨i0, ei0⟩ := is_v g3
  obtain rfl : w0 = (.int i0) := Option.some.inj ei0
  obtain ⟨i1, ei1⟩ := is_v g5
  obtain rfl : w1 = (.int i1) := Option.some.inj ei1
  obtain ⟨i2, ei2⟩ := is_v g6
  obtain rfl : w2 = (.int i2) := Option.some.inj ei2
  obtain ⟨cs, ecs⟩ := is_v (Cond.before_iff.mp (hsets _ (List.mem_of_getElem? (i := 1) rfl)))
  have hCS : Sta s s.heap "java/lang/String" "COMPACT_STRINGS" "Z" (.int cs) := Sta.start ecs (Or.inl (hsets _ (List.mem_of_getElem? (i := 0) rfl)))
  obtain ⟨fo, efo, hfo⟩ := isR_v (Cond.before_iff.mp (hsets _ (List.mem_of_getElem? (i := 8) rfl)))
  have hSF : Sta s s.heap "jdk/internal/util/Preconditions" "SIOOBE_FORMATTER" "Ljava/util/function/BiFunction;" fo := Sta.start efo (Or.inl (hsets _ (List.mem_of_getElem? (i := 7) rfl)))
  have hcw := (hsets _ (List.mem_of_getElem? (i := 2) rfl))
  have hcs : ¬ cs = (0 : Int32) := by
    have q := Cond.before_iff.mp hcw
    simp only [Cond.value, ecs, Term.int_eval] at q
    simpa using q
  obtain ⟨u1, u2⟩ := and_e hn
  obtain ⟨a__VALUES, ea__VALUES⟩ := arr_v u1
  have S__VALUES : Sta s s.heap "com/example/role_delegation/roledelegation/RevocationKind" "$VALUES" "[Lcom/example/role_delegation/roledelegation/RevocationKind;" (.ref a__VALUES) := Sta.start ea__VALUES (Or.inr ⟨(wd hw 75 rfl), (wd hw 81 rfl)⟩)
  obtain ⟨cl_a__VALUES, Ar_a__VALUES⟩ := Arr.start ea__VALUES u1
  obtain ⟨u3, u4⟩ := and_e u2
  have E_a__VALUES : Exa s s.heap a__VALUES "[Lcom/example/role_delegation/roledelegation/RevocationKind;" := Exa.start ea__VALUES u3
  obtain ⟨u5, u6⟩ := and_e u4
  have q7 := own_eqI u5
  obtain ⟨u8, u9⟩ := and_e u6
  obtain ⟨a_DEPENDENT, ea_DEPENDENT⟩ := exa_v u8
  have S_DEPENDENT : Sta s s.heap "com/example/role_delegation/roledelegation/RevocationKind" "DEPENDENT" "Lcom/example/role_delegation/roledelegation/RevocationKind;" (.ref a_DEPENDENT) := Sta.start ea_DEPENDENT (Or.inr ⟨(wd hw 75 rfl), (wd hw 89 rfl)⟩)
  have E_a_DEPENDENT : Exa s s.heap a_DEPENDENT "com/example/role_delegation/roledelegation/RevocationKind" := Exa.start ea_DEPENDENT u8
  obtain ⟨u10, u11⟩ := and_e u9
  have q12 := own_eqR u10 ea_DEPENDENT
  obtain ⟨u13, u14⟩ := and_e u11
  obtain ⟨a_INDEPENDENT, ea_INDEPENDENT⟩ := exa_v u13
  have S_INDEPENDENT : Sta s s.heap "com/example/role_delegation/roledelegation/RevocationKind" "INDEPENDENT" "Lcom/example/role_delegation/roledelegation/RevocationKind;" (.ref a_INDEPENDENT) := Sta.start ea_INDEPENDENT (Or.inr ⟨(wd hw 75 rfl), (wd hw 90 rfl)⟩)
  have E_a_INDEPENDENT : Exa s s.heap a_INDEPENDENT "com/example/role_delegation/roledelegation/RevocationKind" := Exa.start ea_INDEPENDENT u13
  obtain ⟨u15, u16⟩ := and_e u14
  have q17 := own_eqR u15 ea_INDEPENDENT
  obtain ⟨u18, u19⟩ := and_e u16
  obtain ⟨a_DEPENDENT_word, ea_DEPENDENT_word⟩ := exa_v u18
  have F_a_DEPENDENT_word : Fld s s.heap a_DEPENDENT "com/example/role_delegation/roledelegation/RevocationKind" "word" "Ljava/lang/String;" (.ref a_DEPENDENT_word) := Fld.start ((fld_at ea_DEPENDENT).symm.trans ea_DEPENDENT_word)
  have E_a_DEPENDENT_word : Exa s s.heap a_DEPENDENT_word "java/lang/String" := Exa.start ea_DEPENDENT_word u18
  obtain ⟨u20, u21⟩ := and_e u19
  have q22 := own_eqI u20
  have F_a_DEPENDENT_word_coder : Fld s s.heap a_DEPENDENT_word "java/lang/String" "coder" "B" (.int 0) := Fld.start ((fld_at ea_DEPENDENT_word).symm.trans q22)
  obtain ⟨u23, u24⟩ := and_e u21
  obtain ⟨a_DEPENDENT_word_value, ea_DEPENDENT_word_value⟩ := arr_v u23
  have F_a_DEPENDENT_word_value : Fld s s.heap a_DEPENDENT_word "java/lang/String" "value" "[B" (.ref a_DEPENDENT_word_value) := Fld.start ((fld_at ea_DEPENDENT_word).symm.trans ea_DEPENDENT_word_value)
  obtain ⟨cl_a_DEPENDENT_word_value, Ar_a_DEPENDENT_word_value⟩ := Arr.start ea_DEPENDENT_word_value u23
  obtain ⟨u25, u26⟩ := and_e u24
  have q27 := own_eqI u25
  obtain ⟨u28, u29⟩ := and_e u26
  obtain ⟨a_INDEPENDENT_word, ea_INDEPENDENT_word⟩ := exa_v u28
  have F_a_INDEPENDENT_word : Fld s s.heap a_INDEPENDENT "com/example/role_delegation/roledelegation/RevocationKind" "word" "Ljava/lang/String;" (.ref a_INDEPENDENT_word) := Fld.start ((fld_at ea_INDEPENDENT).symm.trans ea_INDEPENDENT_word)
  have E_a_INDEPENDENT_word : Exa s s.heap a_INDEPENDENT_word "java/lang/String" := Exa.start ea_INDEPENDENT_word u28
  obtain ⟨u30, u31⟩ := and_e u29
  have q32 := own_eqI u30
  have F_a_INDEPENDENT_word_coder : Fld s s.heap a_INDEPENDENT_word "java/lang/String" "coder" "B" (.int 0) := Fld.start ((fld_at ea_INDEPENDENT_word).symm.trans q32)
  obtain ⟨u33, u34⟩ := and_e u31
  obtain ⟨a_INDEPENDENT_word_value, ea_INDEPENDENT_word_value⟩ := arr_v u33
  have F_a_INDEPENDENT_word_value : Fld s s.heap a_INDEPENDENT_word "java/lang/String" "value" "[B" (.ref a_INDEPENDENT_word_value) := Fld.start ((fld_at ea_INDEPENDENT_word).symm.trans ea_INDEPENDENT_word_value)
  obtain ⟨cl_a_INDEPENDENT_word_value, Ar_a_INDEPENDENT_word_value⟩ := Arr.start ea_INDEPENDENT_word_value u33
  obtain ⟨u35, u36⟩ := and_e u34
  have q37 := own_eqI u35
  obtain ⟨u38, u39⟩ := and_e u36
  have q40 := own_eqI u38
  obtain ⟨u41, u42⟩ := and_e u39
  have q43 := own_eqI u41
  obtain ⟨u44, u45⟩ := and_e u42
  have q46 := own_eqI u44
  obtain ⟨u47, u48⟩ := and_e u45
  have q49 := own_eqI u47
  obtain ⟨u50, u51⟩ := and_e u48
  have q52 := own_eqI u50
  obtain ⟨u53, u54⟩ := and_e u51
  have q55 := own_eqI u53
  obtain ⟨u56, u57⟩ := and_e u54
  have q58 := own_eqI u56
  obtain ⟨u59, u60⟩ := and_e u57
  have q61 := own_eqI u59
  obtain ⟨u62, u63⟩ := and_e u60
  have q64 := own_eqI u62
  obtain ⟨u65, u66⟩ := and_e u63
  have q67 := own_eqI u65
  obtain ⟨u68, u69⟩ := and_e u66
  have q70 := own_eqI u68
  obtain ⟨u71, u72⟩ := and_e u69
  have q73 := own_eqI u71
  obtain ⟨u74, u75⟩ := and_e u72
  have q76 := own_eqI u74
  obtain ⟨u77, u78⟩ := and_e u75
  have q79 := own_eqI u77
  obtain ⟨u80, u81⟩ := and_e u78
  have q82 := own_eqI u80
  obtain ⟨u83, u84⟩ := and_e u81
  have q85 := own_eqI u83
  obtain ⟨u86, u87⟩ := and_e u84
  have q88 := own_eqI u86
  obtain ⟨u89, u90⟩ := and_e u87
  have q91 := own_eqI u89
  obtain ⟨u92, u93⟩ := and_e u90
  have q94 := own_eqI u92
  have q95 := own_eqI u93
  have ql_a__VALUES := own_arv Ar_a__VALUES ea__VALUES q7
  have V_a__VALUES : Arv s s.heap a__VALUES cl_a__VALUES.cls (.object "com/example/role_delegation/roledelegation/RevocationKind") (2 : Int32) [(.ref a_DEPENDENT), (.ref a_INDEPENDENT)] .null := Arv.start hfit Ar_a__VALUES ql_a__VALUES.1 ql_a__VALUES.2 (by decide) rfl ⟨(elem_in q12 ea__VALUES rfl Ar_a__VALUES.1).2, ⟨(elem_in q17 ea__VALUES rfl Ar_a__VALUES.1).2, trivial⟩⟩
  have ql_a_DEPENDENT_word_value := own_arv Ar_a_DEPENDENT_word_value ea_DEPENDENT_word_value q27
  have V_a_DEPENDENT_word_value : Arv s s.heap a_DEPENDENT_word_value cl_a_DEPENDENT_word_value.cls .byte (9 : Int32) [(.int 100), (.int 101), (.int 112), (.int 101), (.int 110), (.int 100), (.int 101), (.int 110), (.int 116)] (.int 0) := Arv.start hfit Ar_a_DEPENDENT_word_value ql_a_DEPENDENT_word_value.1 ql_a_DEPENDENT_word_value.2 (by decide) rfl ⟨(elem_in q40 ea_DEPENDENT_word_value rfl Ar_a_DEPENDENT_word_value.1).2, ⟨(elem_in q43 ea_DEPENDENT_word_value rfl Ar_a_DEPENDENT_word_value.1).2, ⟨(elem_in q46 ea_DEPENDENT_word_value rfl Ar_a_DEPENDENT_word_value.1).2, ⟨(elem_in q49 ea_DEPENDENT_word_value rfl Ar_a_DEPENDENT_word_value.1).2, ⟨(elem_in q52 ea_DEPENDENT_word_value rfl Ar_a_DEPENDENT_word_value.1).2, ⟨(elem_in q55 ea_DEPENDENT_word_value rfl Ar_a_DEPENDENT_word_value.1).2, ⟨(elem_in q58 ea_DEPENDENT_word_value rfl Ar_a_DEPENDENT_word_value.1).2, ⟨(elem_in q61 ea_DEPENDENT_word_value rfl Ar_a_DEPENDENT_word_value.1).2, ⟨(elem_in q64 ea_DEPENDENT_word_value rfl Ar_a_DEPENDENT_word_value.1).2, trivial⟩⟩⟩⟩⟩⟩⟩⟩⟩
  have ql_a_INDEPENDENT_word_value := own_arv Ar_a_INDEPENDENT_word_value ea_INDEPENDENT_word_value q37
  have V_a_INDEPENDENT_word_value : Arv s s.heap a_INDEPENDENT_word_value cl_a_INDEPENDENT_word_value.cls .byte (11 : Int32) [(.int 105), (.int 110), (.int 100), (.int 101), (.int 112), (.int 101), (.int 110), (.int 100), (.int 101), (.int 110), (.int 116)] (.int 0) := Arv.start hfit Ar_a_INDEPENDENT_word_value ql_a_INDEPENDENT_word_value.1 ql_a_INDEPENDENT_word_value.2 (by decide) rfl ⟨(elem_in q67 ea_INDEPENDENT_word_value rfl Ar_a_INDEPENDENT_word_value.1).2, ⟨(elem_in q70 ea_INDEPENDENT_word_value rfl Ar_a_INDEPENDENT_word_value.1).2, ⟨(elem_in q73 ea_INDEPENDENT_word_value rfl Ar_a_INDEPENDENT_word_value.1).2, ⟨(elem_in q76 ea_INDEPENDENT_word_value rfl Ar_a_INDEPENDENT_word_value.1).2, ⟨(elem_in q79 ea_INDEPENDENT_word_value rfl Ar_a_INDEPENDENT_word_value.1).2, ⟨(elem_in q82 ea_INDEPENDENT_word_value rfl Ar_a_INDEPENDENT_word_value.1).2, ⟨(elem_in q85 ea_INDEPENDENT_word_value rfl Ar_a_INDEPENDENT_word_value.1).2, ⟨(elem_in q88 ea_INDEPENDENT_word_value rfl Ar_a_INDEPENDENT_word_value.1).2, ⟨(elem_in q91 ea_INDEPENDENT_word_value rfl Ar_a_INDEPENDENT_word_value.1).2, ⟨(elem_in q94 ea_INDEPENDENT_word_value rfl Ar_a_INDEPENDENT_word_value.1).2, ⟨(elem_in q95 ea_INDEPENDENT_word_value rfl Ar_a_INDEPENDENT_word_value.1).2, trivial⟩⟩⟩⟩⟩⟩⟩⟩⟩⟩⟩
  have hCH : CHv s consts_1 s.vm s.heap := CHv.start ((EW.cons (text := "dependent") (wd hw 1 rfl) (by decide) (EW.cons (text := "independent") (wd hw 105 rfl) (by decide) (EW.cons (text := "ndependent") (wd hw 120 rfl) (by decide) (EW.cons (text := "") (wd hw 112 rfl) (by decide) EW.nil))))) (fun p hp => hcalls.1 p hp) hcw (wd hw 4 rfl) (wd hw 3 rfl)
  obtain ⟨n, o, h1, h2, h3, _, L, rfl, ⟨rfl, N⟩, hq⟩ := rm0 l s _ hw tables_1 i0 i1 i2 a__VALUES cl_a__VALUES.cls a_DEPENDENT a_INDEPENDENT a_DEPENDENT_word a_DEPENDENT_word_value a_INDEPENDENT_word a_INDEPENDENT_word_value cl_a_DEPENDENT_word_value.cls cl_a_INDEPENDENT_word_value.cls cs fo s.heap s.heap.size (Nat.le_refl _) S__VALUES E_a__VALUES V_a__VALUES ⟨E_a_DEPENDENT_word, F_a_DEPENDENT_word, F_a_DEPENDENT_word_value, F_a_DEPENDENT_word_coder, (Af.of V_a_DEPENDENT_word_value).fn own_tvD⟩ ⟨E_a_INDEPENDENT_word, F_a_INDEPENDENT_word, F_a_INDEPENDENT_word_value, F_a_INDEPENDENT_word_coder, (Af.of V_a_INDEPENDENT_word_value).fn own_tvI⟩ S_DEPENDENT S_INDEPENDENT hCS hcs hSF hfo (Old.start s) p e ha hc hk s m _ below hf ((Spec.applies_iff_loose hf).mp happ).1 ⟨rfl, State.Warmed39.refl s, rfl, hCH⟩ trivial
  refine ⟨n, _, h1, h2, h3, hpost _ _ _ _ _ _ ⟨Cond.after_iff.mpr rfl, Cond.after_iff.mpr (eq_i res_at (Term.int_eval (1)) rfl), trivial⟩ ⟨hq.1, hq.2.1, hq.2.2.1, (hq.2.2.2.sift fun y hy => Or.inr (N y hy)).mono (by decide) (by decide)⟩⟩
theorem main_1_1 : Claimed_1_1 := comes_1 fun _ _ _ _ _ _ h hF => ⟨h.1, hF⟩
theorem main_1_2 : Claimed_1_2 := comes_1 fun _ _ _ _ _ _ h hF => ⟨h.2.1, hF⟩
end Jvm.Pilot.@@N@@
namespace Jvm.Pilot.@@N@@
open Jvm Jvm.ClassFile Sem Op Lib Jvm.Free Jvm.Stand Jvm.Pilot.@@N@@.Jvm.D
/-! MADE BY PROGRAM (witnessworld.py) out of the Statement's table words and the real class files: 22 classes; the members and pool entries that the words name. The judged class is class 1, her method 1. -/
namespace start1
open Jvm.ClassFile
def u (s : String) : CpInfo := .utf8 (stringToUtf16 s)
/-- a pool by its gaps: so many unusable entries, then the entry; so many at the end -/
def gap : Nat → List CpInfo → List CpInfo
  | 0, r => r
  | n + 1, r => .unusable :: gap n r
def poolList (es : List (Nat × CpInfo)) (last : Nat) : List CpInfo := es.foldr (fun e r => gap e.1 (e.2 :: r)) (gap last [])
def pool (es : List (Nat × CpInfo)) (last : Nat) : Array CpInfo := ⟨poolList es last⟩
def fileOf (pool : Array CpInfo) (this : Nat) (attrs : Array Attribute := #[]) (ms : Array MethodInfo := #[]) (fl : Nat := 33) (sup : Nat := 0) (ifs : Array Nat := #[]) (fds : Array FieldInfo := #[]) : ClassFile where
  minorVersion := 0
  majorVersion := 65
  constantPool := pool
  accessFlags := fl
  thisClass := this
  superClass := sup
  interfaces := ifs
  fields := fds
  methods := ms
  attributes := attrs
def plain (name : String) (sup : Option ClassId) : Class where
  name := name
  kind := .ordinary
  loader := none
  accessFlags := 33
  super := sup
  interfaces := #[]
  cf := none
  fields := #[]
  methods := #[]
  instanceTypes := #[]
  staticTypes := #[]
  resolved := #[]
  callSites := []
  init := .initialized
  statics := none
  mirror := none

def pool0 : Array CpInfo := pool [(5, u "<init>"), (0, u "()V"), (1, .class_ 10), (1, u "java/lang/Object"), (85, u "clone"), (0, u "()Ljava/lang/Object;")] 26

def k0c0 : Code := { maxStack := 0, maxLocals := 1, code := object_method_1_code, exceptionTable := #[], attributes := #[] }
def k0m0 : Method := { name := "<init>", desc := "()V", sig := { parameters := [], returnType := none }, accessFlags := 1, code := some k0c0 }
def k0m1 : Method := { name := "clone", desc := "()Ljava/lang/Object;", sig := { parameters := [], returnType := some (.object "java/lang/Object") }, accessFlags := 260, code := none }
/-- java/lang/Object -/
def k0 : Class := { plain "java/lang/Object" none with
  accessFlags := 33
  interfaces := #[]
  cf := some (fileOf pool0 8 #[] #[{ accessFlags := 1, nameIndex := 5, descriptorIndex := 6, attributes := #[] }, { accessFlags := 260, nameIndex := 96, descriptorIndex := 97, attributes := #[] }] 33 0 #[] #[])
  fields := #[]
  methods := #[k0m0, k0m1]
  instanceTypes := #[]
  staticTypes := #[]
  resolved := Array.replicate 124 none
  statics := none }

def pool1 : Array CpInfo := pool [(2, .class_ 4), (1, u "java/lang/Object"), (0, u "<init>"), (0, u "()V"), (0, .integer 2147483647), (0, .string 9), (0, u "dependent"), (0, .methodref 11 12), (0, .class_ 13), (0, .nameAndType 14 15), (0, u "com/example/role_delegation/roledelegation/RevocationKindNamedPinLaw"), (0, u "w9"), (0, u "(Ljava/lang/String;IC)Ljava/lang/String;"), (0, .methodref 17 18), (0, .class_ 19), (0, .nameAndType 20 21), (0, u "java/lang/String"), (0, u "charAt"), (0, u "(I)C"), (0, .fieldref 23 24), (0, .class_ 25), (0, .nameAndType 26 27), (0, u "com/example/role_delegation/roledelegation/RevocationKind"), (0, u "DEPENDENT"), (0, u "Lcom/example/role_delegation/roledelegation/RevocationKind;"), (0, .string 29), (0, u "independent"), (0, .methodref 11 31), (0, .nameAndType 32 15), (0, u "w11"), (0, .fieldref 23 34), (0, .nameAndType 35 27), (0, u "INDEPENDENT"), (0, .methodref 11 37), (0, .nameAndType 38 15), (0, u "w10"), (0, .methodref 11 40), (0, .nameAndType 41 15), (0, u "w12"), (0, .methodref 11 43), (0, .nameAndType 44 15), (0, u "w8"), (0, .string 46), (0, u "ndependent"), (0, .methodref 17 48), (0, .nameAndType 49 50), (0, u "valueOf"), (0, u "(C)Ljava/lang/String;"), (0, .methodref 17 52), (0, .nameAndType 5 53), (0, u "([C)V"), (0, .methodref 23 55), (0, .nameAndType 56 57), (0, u "named"), (0, u "(Ljava/lang/String;)Lcom/example/role_delegation/roledelegation/RevocationKind;"), (0, .methodref 17 59), (0, .nameAndType 60 61), (0, u "length"), (0, u "()I"), (0, .methodref 11 63), (0, .nameAndType 64 65), (0, u "g"), (0, u "(Ljava/lang/String;IIC)C"), (2, u "law"), (0, u "(III)Z")] 3

def k1m0 : Method := { name := "<init>", desc := "()V", sig := { parameters := [], returnType := none }, accessFlags := 1, code := none }
def k1c1 : Code := { maxStack := 3, maxLocals := 9, code := code, exceptionTable := #[], attributes := #[] }
def k1m1 : Method := { name := "law", desc := "(III)Z", sig := { parameters := [.int, .int, .int], returnType := some .boolean }, accessFlags := 9, code := some k1c1 }
def k1c2 : Code := { maxStack := 2, maxLocals := 4, code := method_3_code, exceptionTable := #[], attributes := #[] }
def k1m2 : Method := { name := "g", desc := "(Ljava/lang/String;IIC)C", sig := { parameters := [(.object "java/lang/String"), .int, .int, .char], returnType := some .char }, accessFlags := 10, code := some k1c2 }
def k1c3 : Code := { maxStack := 6, maxLocals := 4, code := method_4_code, exceptionTable := #[], attributes := #[] }
def k1m3 : Method := { name := "w8", desc := "(Ljava/lang/String;IC)Ljava/lang/String;", sig := { parameters := [(.object "java/lang/String"), .int, .char], returnType := some (.object "java/lang/String") }, accessFlags := 10, code := some k1c3 }
def k1c4 : Code := { maxStack := 6, maxLocals := 4, code := method_5_code, exceptionTable := #[], attributes := #[] }
def k1m4 : Method := { name := "w9", desc := "(Ljava/lang/String;IC)Ljava/lang/String;", sig := { parameters := [(.object "java/lang/String"), .int, .char], returnType := some (.object "java/lang/String") }, accessFlags := 10, code := some k1c4 }
def k1c5 : Code := { maxStack := 6, maxLocals := 4, code := method_6_code, exceptionTable := #[], attributes := #[] }
def k1m5 : Method := { name := "w10", desc := "(Ljava/lang/String;IC)Ljava/lang/String;", sig := { parameters := [(.object "java/lang/String"), .int, .char], returnType := some (.object "java/lang/String") }, accessFlags := 10, code := some k1c5 }
def k1c6 : Code := { maxStack := 6, maxLocals := 4, code := method_7_code, exceptionTable := #[], attributes := #[] }
def k1m6 : Method := { name := "w11", desc := "(Ljava/lang/String;IC)Ljava/lang/String;", sig := { parameters := [(.object "java/lang/String"), .int, .char], returnType := some (.object "java/lang/String") }, accessFlags := 10, code := some k1c6 }
def k1c7 : Code := { maxStack := 6, maxLocals := 4, code := method_8_code, exceptionTable := #[], attributes := #[] }
def k1m7 : Method := { name := "w12", desc := "(Ljava/lang/String;IC)Ljava/lang/String;", sig := { parameters := [(.object "java/lang/String"), .int, .char], returnType := some (.object "java/lang/String") }, accessFlags := 10, code := some k1c7 }
/-- com/example/role_delegation/roledelegation/RevocationKindNamedPinLaw -/
def k1 : Class := { plain "com/example/role_delegation/roledelegation/RevocationKindNamedPinLaw" (some 0) with
  accessFlags := 49
  interfaces := #[]
  cf := some (fileOf pool1 11 #[] #[{ accessFlags := 1, nameIndex := 5, descriptorIndex := 6, attributes := #[] }, { accessFlags := 9, nameIndex := 68, descriptorIndex := 69, attributes := #[] }, { accessFlags := 10, nameIndex := 64, descriptorIndex := 65, attributes := #[] }, { accessFlags := 10, nameIndex := 44, descriptorIndex := 15, attributes := #[] }, { accessFlags := 10, nameIndex := 14, descriptorIndex := 15, attributes := #[] }, { accessFlags := 10, nameIndex := 38, descriptorIndex := 15, attributes := #[] }, { accessFlags := 10, nameIndex := 32, descriptorIndex := 15, attributes := #[] }, { accessFlags := 10, nameIndex := 41, descriptorIndex := 15, attributes := #[] }] 49 2 #[] #[])
  fields := #[]
  methods := #[k1m0, k1m1, k1m2, k1m3, k1m4, k1m5, k1m6, k1m7]
  instanceTypes := #[]
  staticTypes := #[]
  resolved := Array.replicate 73 none
  statics := none }

def pool2 : Array CpInfo := pool [(1, .class_ 2), (0, u "java/io/Serializable"), (0, .class_ 4), (0, u "java/lang/Object")] 2

/-- java/io/Serializable -/
def k2 : Class := { plain "java/io/Serializable" (some 0) with
  accessFlags := 1537
  interfaces := #[]
  cf := some (fileOf pool2 1 #[] #[] 1537 3 #[] #[])
  fields := #[]
  methods := #[]
  instanceTypes := #[]
  staticTypes := #[]
  resolved := Array.replicate 7 none
  statics := none }

def pool3 : Array CpInfo := pool [(1, .class_ 2), (0, u "java/lang/Comparable"), (0, .class_ 4), (0, u "java/lang/Object")] 7

/-- java/lang/Comparable -/
def k3 : Class := { plain "java/lang/Comparable" (some 0) with
  accessFlags := 1537
  interfaces := #[]
  cf := some (fileOf pool3 1 #[] #[] 1537 3 #[] #[])
  fields := #[]
  methods := #[]
  instanceTypes := #[]
  staticTypes := #[]
  resolved := Array.replicate 12 none
  statics := none }

def pool4 : Array CpInfo := pool [(2, .class_ 4), (1, u "java/lang/CharSequence"), (42, .class_ 48), (0, u "java/lang/CharSequence$1CodePointIterator"), (10, .class_ 60), (0, u "java/lang/CharSequence$1CharIterator"), (5, .class_ 67), (0, u "java/lang/Object")] 63

/-- java/lang/CharSequence -/
def k4 : Class := { plain "java/lang/CharSequence" (some 0) with
  accessFlags := 1537
  interfaces := #[]
  cf := some (fileOf pool4 2 #[.nestMembers #[47, 59]] #[] 1537 66 #[] #[])
  fields := #[]
  methods := #[]
  instanceTypes := #[]
  staticTypes := #[]
  resolved := Array.replicate 131 none
  statics := none }

def pool5 : Array CpInfo := pool [(1, .class_ 2), (0, u "java/lang/constant/Constable"), (0, .class_ 4), (0, u "java/lang/Object")] 6

/-- java/lang/constant/Constable -/
def k5 : Class := { plain "java/lang/constant/Constable" (some 0) with
  accessFlags := 1537
  interfaces := #[]
  cf := some (fileOf pool5 1 #[] #[] 1537 3 #[] #[])
  fields := #[]
  methods := #[]
  instanceTypes := #[]
  staticTypes := #[]
  resolved := Array.replicate 11 none
  statics := none }

def pool6 : Array CpInfo := pool [(1, .class_ 2), (0, u "java/lang/constant/ConstantDesc"), (0, .class_ 4), (0, u "java/lang/Object")] 32

/-- java/lang/constant/ConstantDesc -/
def k6 : Class := { plain "java/lang/constant/ConstantDesc" (some 0) with
  accessFlags := 1537
  interfaces := #[]
  cf := some (fileOf pool6 1 #[] #[] 1537 3 #[] #[])
  fields := #[]
  methods := #[]
  instanceTypes := #[]
  staticTypes := #[]
  resolved := Array.replicate 37 none
  statics := none }

def pool7 : Array CpInfo := pool [(1, .methodref 2 3), (0, .class_ 4), (0, .nameAndType 5 6), (0, u "java/lang/Object"), (0, u "<init>"), (0, u "()V"), (0, .string 8), (0, u ""), (0, .fieldref 10 11), (0, .class_ 12), (0, .nameAndType 13 14), (0, u "java/lang/String"), (0, u "value"), (0, u "[B"), (0, .fieldref 10 16), (0, .nameAndType 17 18), (0, u "coder"), (0, u "B"), (2, u "hash"), (0, u "I"), (2, u "hashIsZero"), (0, u "Z"), (0, .methodref 10 28), (0, .nameAndType 5 29), (0, u "([CIILjava/lang/Void;)V"), (8, .fieldref 10 39), (0, .nameAndType 40 26), (0, u "COMPACT_STRINGS"), (1, .class_ 44), (1, u "java/lang/StringUTF16"), (0, u "compress"), (1, .methodref 42 48), (0, .nameAndType 49 50), (0, u "coderFromArrayLen"), (0, u "([BI)B"), (2, u "toBytes"), (53, .class_ 109), (1, u "java/lang/StringLatin1"), (32, u "()Z"), (34, .methodref 42 178), (0, .nameAndType 45 179), (0, u "([CII)[B"), (29, .methodref 10 210), (0, .nameAndType 5 211), (0, u "([BB)V"), (122, u "()I"), (0, .methodref 10 336), (0, .nameAndType 17 337), (0, u "()B"), (25, u "([BI)C"), (5, u "(C)Z"), (21, u "(II)V"), (35, u "(I)C"), (64, .methodref 10 493), (0, .nameAndType 494 142), (0, u "isLatin1"), (0, .methodref 107 496), (0, .nameAndType 497 363), (0, u "charAt"), (3, u "checkIndex"), (5, u "length"), (33, .methodref 107 542), (0, .nameAndType 543 544), (0, u "equals"), (0, u "([B[B)Z"), (28, u "(Ljava/lang/Object;)Z"), (1, .class_ 576), (0, u "java/lang/CharSequence"), (22, u "CASE_INSENSITIVE_ORDER"), (0, u "Ljava/util/Comparator;"), (181, u "valueOf"), (0, u "(C)Ljava/lang/String;"), (226, u "([C)V"), (4, .methodref 107 1016), (0, .nameAndType 1017 369), (0, u "canEncode"), (0, .methodref 107 1019), (0, .nameAndType 53 1020), (0, u "(C)[B"), (32, .fieldref 1054 1055), (0, .class_ 1056), (0, .nameAndType 1057 1058), (0, u "jdk/internal/util/Preconditions"), (0, u "SIOOBE_FORMATTER"), (0, u "Ljava/util/function/BiFunction;"), (0, .methodref 1054 1060), (0, .nameAndType 501 1061), (0, u "(IILjava/util/function/BiFunction;)I"), (39, u "serialPersistentFields"), (0, u "[Ljava/io/ObjectStreamField;"), (0, .class_ 1104), (0, u "java/lang/String$CaseInsensitiveComparator"), (1, .class_ 1107), (0, u "java/io/Serializable"), (0, .class_ 1109), (0, u "java/lang/Comparable"), (0, .class_ 1111), (0, u "java/lang/constant/Constable"), (0, .class_ 1113), (0, u "java/lang/constant/ConstantDesc"), (2, u "serialVersionUID"), (0, u "J"), (3, u "REPL"), (0, u "C"), (2, u "LATIN1"), (1, u "UTF16")] 323

def k7m0 : Method := { name := "<init>", desc := "()V", sig := { parameters := [], returnType := none }, accessFlags := 1, code := none }
def k7c1 : Code := { maxStack := 5, maxLocals := 2, code := jdk_42_method_3_code, exceptionTable := #[], attributes := #[] }
def k7m1 : Method := { name := "<init>", desc := "([C)V", sig := { parameters := [(.array .char)], returnType := none }, accessFlags := 1, code := some k7c1 }
def k7c2 : Code := { maxStack := 2, maxLocals := 1, code := jdk_42_method_54_code, exceptionTable := #[], attributes := #[] }
def k7m2 : Method := { name := "length", desc := "()I", sig := { parameters := [], returnType := some .int }, accessFlags := 1, code := some k7c2 }
def k7c3 : Code := { maxStack := 2, maxLocals := 2, code := jdk_42_method_56_code, exceptionTable := #[], attributes := #[] }
def k7m3 : Method := { name := "charAt", desc := "(I)C", sig := { parameters := [.int], returnType := some .char }, accessFlags := 1, code := some k7c3 }
def k7c4 : Code := { maxStack := 2, maxLocals := 3, code := jdk_42_method_66_code, exceptionTable := #[], attributes := #[] }
def k7m4 : Method := { name := "equals", desc := "(Ljava/lang/Object;)Z", sig := { parameters := [(.object "java/lang/Object")], returnType := some .boolean }, accessFlags := 1, code := some k7c4 }
def k7c5 : Code := { maxStack := 4, maxLocals := 1, code := jdk_42_method_139_code, exceptionTable := #[], attributes := #[] }
def k7m5 : Method := { name := "valueOf", desc := "(C)Ljava/lang/String;", sig := { parameters := [.char], returnType := some (.object "java/lang/String") }, accessFlags := 9, code := some k7c5 }
def k7c6 : Code := { maxStack := 4, maxLocals := 6, code := jdk_42_method_149_code, exceptionTable := #[], attributes := #[] }
def k7m6 : Method := { name := "<init>", desc := "([CIILjava/lang/Void;)V", sig := { parameters := [(.array .char), .int, .int, (.object "java/lang/Void")], returnType := none }, accessFlags := 2, code := some k7c6 }
def k7c7 : Code := { maxStack := 2, maxLocals := 3, code := jdk_42_method_151_code, exceptionTable := #[], attributes := #[] }
def k7m7 : Method := { name := "<init>", desc := "([BB)V", sig := { parameters := [(.array .byte), .byte], returnType := none }, accessFlags := 0, code := some k7c7 }
def k7c8 : Code := { maxStack := 1, maxLocals := 1, code := jdk_42_method_152_code, exceptionTable := #[], attributes := #[] }
def k7m8 : Method := { name := "coder", desc := "()B", sig := { parameters := [], returnType := some .byte }, accessFlags := 0, code := some k7c8 }
def k7c9 : Code := { maxStack := 1, maxLocals := 1, code := jdk_42_method_154_code, exceptionTable := #[], attributes := #[] }
def k7m9 : Method := { name := "isLatin1", desc := "()Z", sig := { parameters := [], returnType := some .boolean }, accessFlags := 0, code := some k7c9 }
def k7c10 : Code := { maxStack := 3, maxLocals := 2, code := jdk_42_method_155_code, exceptionTable := #[], attributes := #[] }
def k7m10 : Method := { name := "checkIndex", desc := "(II)V", sig := { parameters := [.int, .int], returnType := none }, accessFlags := 8, code := some k7c10 }
/-- java/lang/String -/
def k7 : Class := { plain "java/lang/String" (some 0) with
  accessFlags := 49
  interfaces := #[2, 3, 4, 5, 6]
  cf := some (fileOf pool7 10 #[.nestMembers #[1103]] #[{ accessFlags := 1, nameIndex := 5, descriptorIndex := 6, attributes := #[] }, { accessFlags := 1, nameIndex := 5, descriptorIndex := 1010, attributes := #[] }, { accessFlags := 1, nameIndex := 507, descriptorIndex := 334, attributes := #[] }, { accessFlags := 1, nameIndex := 497, descriptorIndex := 427, attributes := #[] }, { accessFlags := 1, nameIndex := 543, descriptorIndex := 573, attributes := #[] }, { accessFlags := 9, nameIndex := 782, descriptorIndex := 783, attributes := #[] }, { accessFlags := 2, nameIndex := 5, descriptorIndex := 29, attributes := #[] }, { accessFlags := 0, nameIndex := 5, descriptorIndex := 211, attributes := #[] }, { accessFlags := 0, nameIndex := 17, descriptorIndex := 337, attributes := #[] }, { accessFlags := 0, nameIndex := 494, descriptorIndex := 142, attributes := #[] }, { accessFlags := 8, nameIndex := 501, descriptorIndex := 391, attributes := #[] }] 49 2 #[1106, 1108, 575, 1110, 1112] #[{ accessFlags := 18, nameIndex := 13, descriptorIndex := 14, attributes := #[] }, { accessFlags := 18, nameIndex := 17, descriptorIndex := 18, attributes := #[] }, { accessFlags := 2, nameIndex := 21, descriptorIndex := 22, attributes := #[] }, { accessFlags := 2, nameIndex := 25, descriptorIndex := 26, attributes := #[] }, { accessFlags := 26, nameIndex := 1116, descriptorIndex := 1117, attributes := #[] }, { accessFlags := 24, nameIndex := 40, descriptorIndex := 26, attributes := #[] }, { accessFlags := 26, nameIndex := 1101, descriptorIndex := 1102, attributes := #[] }, { accessFlags := 26, nameIndex := 1121, descriptorIndex := 1122, attributes := #[] }, { accessFlags := 25, nameIndex := 599, descriptorIndex := 600, attributes := #[] }, { accessFlags := 24, nameIndex := 1125, descriptorIndex := 18, attributes := #[] }, { accessFlags := 24, nameIndex := 1127, descriptorIndex := 18, attributes := #[] }])
  fields := #[{ name := "value", type := (.array .byte), accessFlags := 18, slot := 0, constantValue := 0 }, { name := "coder", type := .byte, accessFlags := 18, slot := 1, constantValue := 0 }, { name := "hash", type := .int, accessFlags := 2, slot := 2, constantValue := 0 }, { name := "hashIsZero", type := .boolean, accessFlags := 2, slot := 3, constantValue := 0 }, { name := "serialVersionUID", type := .long, accessFlags := 26, slot := 0, constantValue := 0 }, { name := "COMPACT_STRINGS", type := .boolean, accessFlags := 24, slot := 1, constantValue := 0 }, { name := "serialPersistentFields", type := (.array (.object "java/io/ObjectStreamField")), accessFlags := 26, slot := 2, constantValue := 0 }, { name := "REPL", type := .char, accessFlags := 26, slot := 3, constantValue := 0 }, { name := "CASE_INSENSITIVE_ORDER", type := (.object "java/util/Comparator"), accessFlags := 25, slot := 4, constantValue := 0 }, { name := "LATIN1", type := .byte, accessFlags := 24, slot := 5, constantValue := 0 }, { name := "UTF16", type := .byte, accessFlags := 24, slot := 6, constantValue := 0 }]
  methods := #[k7m0, k7m1, k7m2, k7m3, k7m4, k7m5, k7m6, k7m7, k7m8, k7m9, k7m10]
  instanceTypes := #[(.array .byte), .byte, .int, .boolean]
  staticTypes := #[.long, .boolean, (.array (.object "java/io/ObjectStreamField")), .char, (.object "java/util/Comparator"), .byte, .byte]
  resolved := Array.replicate 1451 none
  statics := some 0 }

def pool8 : Array CpInfo := pool [(1, .class_ 2), (0, u "java/lang/String"), (1, .class_ 6), (1, u "java/lang/Object"), (0, u "<init>"), (0, u "()V"), (0, .methodref 1 10), (0, .nameAndType 11 12), (0, u "checkIndex"), (0, u "(II)V"), (1, .class_ 16), (1, u "java/lang/StringLatin1"), (36, u "([BI)C"), (36, u "canEncode"), (14, u "(C)Z"), (15, u "$assertionsDisabled"), (0, u "Z"), (98, .class_ 223), (1, u "java/lang/StringLatin1$LinesSpliterator"), (28, u "charAt"), (28, u "equals"), (0, u "([B[B)Z"), (97, u "toBytes"), (1, u "(C)[B"), (7, .class_ 391), (0, u "java/lang/StringLatin1$CharsSpliterator")] 3

def k8m0 : Method := { name := "<init>", desc := "()V", sig := { parameters := [], returnType := none }, accessFlags := 0, code := none }
def k8c1 : Code := { maxStack := 2, maxLocals := 2, code := jdk_43_method_2_code, exceptionTable := #[], attributes := #[] }
def k8m1 : Method := { name := "charAt", desc := "([BI)C", sig := { parameters := [(.array .byte), .int], returnType := some .char }, accessFlags := 9, code := some k8c1 }
def k8c2 : Code := { maxStack := 2, maxLocals := 1, code := jdk_43_method_3_code, exceptionTable := #[], attributes := #[] }
def k8m2 : Method := { name := "canEncode", desc := "(C)Z", sig := { parameters := [.char], returnType := some .boolean }, accessFlags := 9, code := some k8c2 }
def k8c3 : Code := { maxStack := 3, maxLocals := 3, code := jdk_43_method_13_code, exceptionTable := #[], attributes := #[] }
def k8m3 : Method := { name := "equals", desc := "([B[B)Z", sig := { parameters := [(.array .byte), (.array .byte)], returnType := some .boolean }, accessFlags := 9, code := some k8c3 }
def k8c4 : Code := { maxStack := 4, maxLocals := 1, code := jdk_43_method_46_code, exceptionTable := #[], attributes := #[] }
def k8m4 : Method := { name := "toBytes", desc := "(C)[B", sig := { parameters := [.char], returnType := some (.array .byte) }, accessFlags := 9, code := some k8c4 }
/-- java/lang/StringLatin1 -/
def k8 : Class := { plain "java/lang/StringLatin1" (some 0) with
  accessFlags := 48
  interfaces := #[]
  cf := some (fileOf pool8 14 #[.nestMembers #[390, 221]] #[{ accessFlags := 0, nameIndex := 7, descriptorIndex := 8, attributes := #[] }, { accessFlags := 9, nameIndex := 252, descriptorIndex := 53, attributes := #[] }, { accessFlags := 9, nameIndex := 90, descriptorIndex := 105, attributes := #[] }, { accessFlags := 9, nameIndex := 281, descriptorIndex := 282, attributes := #[] }, { accessFlags := 9, nameIndex := 380, descriptorIndex := 382, attributes := #[] }] 48 4 #[] #[{ accessFlags := 4120, nameIndex := 121, descriptorIndex := 122, attributes := #[] }])
  fields := #[{ name := "$assertionsDisabled", type := .boolean, accessFlags := 4120, slot := 0, constantValue := 0 }]
  methods := #[k8m0, k8m1, k8m2, k8m3, k8m4]
  instanceTypes := #[]
  staticTypes := #[.boolean]
  resolved := Array.replicate 395 none
  statics := none }

def pool9 : Array CpInfo := pool [(2, .class_ 4), (1, u "java/lang/Object"), (0, u "<init>"), (0, u "()V"), (17, .class_ 26), (1, u "jdk/internal/util/Preconditions"), (6, u "checkIndex"), (21, .class_ 56), (0, u "jdk/internal/util/Preconditions$4"), (57, .class_ 115), (0, u "jdk/internal/util/Preconditions$1"), (7, u "SIOOBE_FORMATTER"), (0, u "Ljava/util/function/BiFunction;"), (0, .class_ 126), (0, u "jdk/internal/util/Preconditions$2"), (3, u "AIOOBE_FORMATTER"), (0, .class_ 132), (0, u "jdk/internal/util/Preconditions$3"), (3, u "IOOBE_FORMATTER"), (41, u "(IILjava/util/function/BiFunction;)I")] 15

def k9m0 : Method := { name := "<init>", desc := "()V", sig := { parameters := [], returnType := none }, accessFlags := 1, code := none }
def k9c1 : Code := { maxStack := 3, maxLocals := 3, code := jdk_41_method_11_code, exceptionTable := #[], attributes := #[] }
def k9m1 : Method := { name := "checkIndex", desc := "(IILjava/util/function/BiFunction;)I", sig := { parameters := [.int, .int, (.object "java/util/function/BiFunction")], returnType := some .int }, accessFlags := 9, code := some k9c1 }
/-- jdk/internal/util/Preconditions -/
def k9 : Class := { plain "jdk/internal/util/Preconditions" (some 0) with
  accessFlags := 33
  interfaces := #[]
  cf := some (fileOf pool9 24 #[.nestMembers #[55, 131, 125, 114]] #[{ accessFlags := 1, nameIndex := 5, descriptorIndex := 6, attributes := #[] }, { accessFlags := 9, nameIndex := 33, descriptorIndex := 178, attributes := #[] }] 33 2 #[] #[{ accessFlags := 25, nameIndex := 123, descriptorIndex := 124, attributes := #[] }, { accessFlags := 25, nameIndex := 130, descriptorIndex := 124, attributes := #[] }, { accessFlags := 25, nameIndex := 136, descriptorIndex := 124, attributes := #[] }])
  fields := #[{ name := "SIOOBE_FORMATTER", type := (.object "java/util/function/BiFunction"), accessFlags := 25, slot := 0, constantValue := 0 }, { name := "AIOOBE_FORMATTER", type := (.object "java/util/function/BiFunction"), accessFlags := 25, slot := 1, constantValue := 0 }, { name := "IOOBE_FORMATTER", type := (.object "java/util/function/BiFunction"), accessFlags := 25, slot := 2, constantValue := 0 }]
  methods := #[k9m0, k9m1]
  instanceTypes := #[]
  staticTypes := #[(.object "java/util/function/BiFunction"), (.object "java/util/function/BiFunction"), (.object "java/util/function/BiFunction")]
  resolved := Array.replicate 194 none
  statics := some 1 }

def pool10 : Array CpInfo := pool [(6, .class_ 8), (1, u "java/lang/Object"), (0, u "<init>"), (0, u "()V"), (1, .class_ 14), (1, u "java/lang/StringUTF16"), (31, u "$assertionsDisabled"), (0, u "Z"), (13, u "HI_BYTE_SHIFT"), (0, u "I"), (2, u "LO_BYTE_SHIFT"), (49, .methodref 12 116), (0, .nameAndType 117 118), (0, u "compress"), (0, u "([CI[BII)I"), (3, u "([CII)[B"), (138, u "coderFromArrayLen"), (0, u "([BI)B"), (106, .class_ 371), (1, u "java/lang/StringUTF16$LinesSpliterator"), (58, u "MAX_LENGTH"), (196, .class_ 628), (0, u "java/lang/StringUTF16$CodePointsSpliterator"), (0, .class_ 630), (0, u "java/lang/StringUTF16$CharsSpliterator")] 4

def k10m0 : Method := { name := "<init>", desc := "()V", sig := { parameters := [], returnType := none }, accessFlags := 0, code := none }
def k10c1 : Code := { maxStack := 2, maxLocals := 2, code := jdk_52_method_15_code, exceptionTable := #[], attributes := #[] }
def k10m1 : Method := { name := "coderFromArrayLen", desc := "([BI)B", sig := { parameters := [(.array .byte), .int], returnType := some .byte }, accessFlags := 8, code := some k10c1 }
def k10c2 : Code := { maxStack := 5, maxLocals := 6, code := jdk_52_method_16_code, exceptionTable := #[], attributes := #[] }
def k10m2 : Method := { name := "compress", desc := "([CII)[B", sig := { parameters := [(.array .char), .int, .int], returnType := some (.array .byte) }, accessFlags := 9, code := some k10c2 }
def k10c3 : Code := { maxStack := 3, maxLocals := 7, code := jdk_52_method_21_code, exceptionTable := #[], attributes := #[] }
def k10m3 : Method := { name := "compress", desc := "([CI[BII)I", sig := { parameters := [(.array .char), .int, (.array .byte), .int, .int], returnType := some .int }, accessFlags := 9, code := some k10c3 }
/-- java/lang/StringUTF16 -/
def k10 : Class := { plain "java/lang/StringUTF16" (some 0) with
  accessFlags := 48
  interfaces := #[]
  cf := some (fileOf pool10 12 #[.nestMembers #[627, 629, 369]] #[{ accessFlags := 0, nameIndex := 9, descriptorIndex := 10, attributes := #[] }, { accessFlags := 8, nameIndex := 261, descriptorIndex := 262, attributes := #[] }, { accessFlags := 9, nameIndex := 117, descriptorIndex := 122, attributes := #[] }, { accessFlags := 9, nameIndex := 117, descriptorIndex := 118, attributes := #[] }] 48 6 #[] #[{ accessFlags := 26, nameIndex := 61, descriptorIndex := 62, attributes := #[] }, { accessFlags := 26, nameIndex := 65, descriptorIndex := 62, attributes := #[] }, { accessFlags := 24, nameIndex := 430, descriptorIndex := 62, attributes := #[] }, { accessFlags := 4120, nameIndex := 46, descriptorIndex := 47, attributes := #[] }])
  fields := #[{ name := "HI_BYTE_SHIFT", type := .int, accessFlags := 26, slot := 0, constantValue := 0 }, { name := "LO_BYTE_SHIFT", type := .int, accessFlags := 26, slot := 1, constantValue := 0 }, { name := "MAX_LENGTH", type := .int, accessFlags := 24, slot := 2, constantValue := 0 }, { name := "$assertionsDisabled", type := .boolean, accessFlags := 4120, slot := 3, constantValue := 0 }]
  methods := #[k10m0, k10m1, k10m2, k10m3]
  instanceTypes := #[]
  staticTypes := #[.int, .int, .int, .boolean]
  resolved := Array.replicate 635 none
  statics := none }

def pool11 : Array CpInfo := pool [(2, .class_ 4), (1, u "java/lang/Enum"), (0, u "name"), (0, u "Ljava/lang/String;"), (2, u "ordinal"), (0, u "I"), (1, .class_ 14), (1, u "java/lang/Object"), (4, u "hash"), (86, .class_ 108), (1, u "java/lang/Enum$EnumDesc"), (2, .class_ 112), (0, u "java/lang/constant/Constable"), (0, .class_ 114), (0, u "java/lang/Comparable"), (0, .class_ 116), (0, u "java/io/Serializable")] 87

/-- java/lang/Enum -/
def k11 : Class := { plain "java/lang/Enum" (some 0) with
  accessFlags := 1057
  interfaces := #[5, 3, 2]
  cf := some (fileOf pool11 2 #[.nestMembers #[106]] #[] 1057 12 #[111, 113, 115] #[{ accessFlags := 18, nameIndex := 5, descriptorIndex := 6, attributes := #[] }, { accessFlags := 18, nameIndex := 9, descriptorIndex := 10, attributes := #[] }, { accessFlags := 2, nameIndex := 19, descriptorIndex := 10, attributes := #[] }])
  fields := #[{ name := "name", type := (.object "java/lang/String"), accessFlags := 18, slot := 0, constantValue := 0 }, { name := "ordinal", type := .int, accessFlags := 18, slot := 1, constantValue := 0 }, { name := "hash", type := .int, accessFlags := 2, slot := 2, constantValue := 0 }]
  methods := #[]
  instanceTypes := #[(.object "java/lang/String"), .int, .int]
  staticTypes := #[]
  resolved := Array.replicate 204 none
  statics := none }

def pool12 : Array CpInfo := pool [(1, .class_ 2), (0, u "com/example/role_delegation/roledelegation/RevocationKind"), (2, u "DEPENDENT"), (0, u "Lcom/example/role_delegation/roledelegation/RevocationKind;"), (2, u "INDEPENDENT"), (0, .fieldref 1 11), (0, .nameAndType 12 13), (0, u "$VALUES"), (0, u "[Lcom/example/role_delegation/roledelegation/RevocationKind;"), (0, .methodref 15 16), (0, .class_ 13), (0, .nameAndType 17 18), (0, u "clone"), (0, u "()Ljava/lang/Object;"), (1, .class_ 22), (1, u "java/lang/Enum"), (6, .fieldref 1 30), (0, .nameAndType 31 32), (0, u "word"), (0, u "Ljava/lang/String;"), (0, .methodref 1 34), (0, .nameAndType 35 36), (0, u "values"), (0, u "()[Lcom/example/role_delegation/roledelegation/RevocationKind;"), (0, .methodref 38 39), (0, .class_ 40), (0, .nameAndType 41 42), (0, u "java/lang/String"), (0, u "equals"), (0, u "(Ljava/lang/Object;)Z"), (14, u "(Ljava/lang/String;)Lcom/example/role_delegation/roledelegation/RevocationKind;"), (4, u "named")] 6

def k12c0 : Code := { maxStack := 1, maxLocals := 0, code := prog_51_method_1_code, exceptionTable := #[], attributes := #[] }
def k12m0 : Method := { name := "values", desc := "()[Lcom/example/role_delegation/roledelegation/RevocationKind;", sig := { parameters := [], returnType := some (.array (.object "com/example/role_delegation/roledelegation/RevocationKind")) }, accessFlags := 9, code := some k12c0 }
def k12c1 : Code := { maxStack := 2, maxLocals := 6, code := prog_51_method_5_code, exceptionTable := #[], attributes := #[] }
def k12m1 : Method := { name := "named", desc := "(Ljava/lang/String;)Lcom/example/role_delegation/roledelegation/RevocationKind;", sig := { parameters := [(.object "java/lang/String")], returnType := some (.object "com/example/role_delegation/roledelegation/RevocationKind") }, accessFlags := 8, code := some k12c1 }
/-- com/example/role_delegation/roledelegation/RevocationKind -/
def k12 : Class := { plain "com/example/role_delegation/roledelegation/RevocationKind" (some 11) with
  accessFlags := 16433
  interfaces := #[]
  cf := some (fileOf pool12 1 #[] #[{ accessFlags := 9, nameIndex := 35, descriptorIndex := 36, attributes := #[] }, { accessFlags := 8, nameIndex := 62, descriptorIndex := 57, attributes := #[] }] 16433 20 #[] #[{ accessFlags := 16409, nameIndex := 5, descriptorIndex := 6, attributes := #[] }, { accessFlags := 16409, nameIndex := 9, descriptorIndex := 6, attributes := #[] }, { accessFlags := 18, nameIndex := 31, descriptorIndex := 32, attributes := #[] }, { accessFlags := 4122, nameIndex := 12, descriptorIndex := 13, attributes := #[] }])
  fields := #[{ name := "DEPENDENT", type := (.object "com/example/role_delegation/roledelegation/RevocationKind"), accessFlags := 16409, slot := 0, constantValue := 0 }, { name := "INDEPENDENT", type := (.object "com/example/role_delegation/roledelegation/RevocationKind"), accessFlags := 16409, slot := 1, constantValue := 0 }, { name := "word", type := (.object "java/lang/String"), accessFlags := 18, slot := 3, constantValue := 0 }, { name := "$VALUES", type := (.array (.object "com/example/role_delegation/roledelegation/RevocationKind")), accessFlags := 4122, slot := 2, constantValue := 0 }]
  methods := #[k12m0, k12m1]
  instanceTypes := #[(.object "java/lang/String"), .int, .int, (.object "java/lang/String")]
  staticTypes := #[(.object "com/example/role_delegation/roledelegation/RevocationKind"), (.object "com/example/role_delegation/roledelegation/RevocationKind"), (.array (.object "com/example/role_delegation/roledelegation/RevocationKind"))]
  resolved := Array.replicate 69 none
  statics := some 2 }

def pool13 : Array CpInfo := pool [(1, .class_ 2), (0, u "java/lang/Cloneable"), (0, .class_ 4), (0, u "java/lang/Object")] 2

/-- java/lang/Cloneable -/
def k13 : Class := { plain "java/lang/Cloneable" (some 0) with
  accessFlags := 1537
  interfaces := #[]
  cf := some (fileOf pool13 1 #[] #[] 1537 3 #[] #[])
  fields := #[]
  methods := #[]
  instanceTypes := #[]
  staticTypes := #[]
  resolved := Array.replicate 7 none
  statics := none }

def pool14 : Array CpInfo := pool [(9, u "<init>"), (6, .class_ 18), (1, u "java/lang/Object"), (0, u "()V"), (1, .class_ 23), (1, u "jdk/internal/util/ArraysSupport"), (0, u "LOG2_ARRAY_LONG_INDEX_SCALE"), (0, u "I"), (2, u "U"), (0, u "Ljdk/internal/misc/Unsafe;"), (8, u "BIG_ENDIAN"), (0, u "Z"), (8, u "LOG2_BYTE_BIT_SIZE"), (4, u "LOG2_ARRAY_INT_INDEX_SCALE"), (54, u "JLA"), (0, u "Ljdk/internal/access/JavaLangAccess;"), (11, u "LOG2_ARRAY_BOOLEAN_INDEX_SCALE"), (9, u "LOG2_ARRAY_BYTE_INDEX_SCALE"), (5, u "LOG2_ARRAY_CHAR_INDEX_SCALE"), (5, u "LOG2_ARRAY_SHORT_INDEX_SCALE"), (18, u "LOG2_ARRAY_FLOAT_INDEX_SCALE"), (24, u "LOG2_ARRAY_DOUBLE_INDEX_SCALE"), (89, u "T_BOOLEAN"), (2, u "T_CHAR"), (1, u "T_FLOAT"), (1, u "T_DOUBLE"), (1, u "T_BYTE"), (1, u "T_SHORT"), (1, u "T_INT"), (1, u "T_LONG"), (1, u "SOFT_MAX_ARRAY_LENGTH")] 83

def k14m0 : Method := { name := "<init>", desc := "()V", sig := { parameters := [], returnType := none }, accessFlags := 2, code := none }
/-- jdk/internal/util/ArraysSupport -/
def k14 : Class := { plain "jdk/internal/util/ArraysSupport" (some 0) with
  accessFlags := 33
  interfaces := #[]
  cf := some (fileOf pool14 21 #[] #[{ accessFlags := 2, nameIndex := 9, descriptorIndex := 19, attributes := #[] }] 33 16 #[] #[{ accessFlags := 24, nameIndex := 28, descriptorIndex := 29, attributes := #[] }, { accessFlags := 26, nameIndex := 38, descriptorIndex := 39, attributes := #[] }, { accessFlags := 25, nameIndex := 121, descriptorIndex := 25, attributes := #[] }, { accessFlags := 25, nameIndex := 131, descriptorIndex := 25, attributes := #[] }, { accessFlags := 25, nameIndex := 137, descriptorIndex := 25, attributes := #[] }, { accessFlags := 25, nameIndex := 143, descriptorIndex := 25, attributes := #[] }, { accessFlags := 25, nameIndex := 53, descriptorIndex := 25, attributes := #[] }, { accessFlags := 25, nameIndex := 24, descriptorIndex := 25, attributes := #[] }, { accessFlags := 25, nameIndex := 162, descriptorIndex := 25, attributes := #[] }, { accessFlags := 25, nameIndex := 187, descriptorIndex := 25, attributes := #[] }, { accessFlags := 26, nameIndex := 48, descriptorIndex := 25, attributes := #[] }, { accessFlags := 25, nameIndex := 277, descriptorIndex := 25, attributes := #[] }, { accessFlags := 25, nameIndex := 280, descriptorIndex := 25, attributes := #[] }, { accessFlags := 25, nameIndex := 282, descriptorIndex := 25, attributes := #[] }, { accessFlags := 25, nameIndex := 284, descriptorIndex := 25, attributes := #[] }, { accessFlags := 25, nameIndex := 286, descriptorIndex := 25, attributes := #[] }, { accessFlags := 25, nameIndex := 288, descriptorIndex := 25, attributes := #[] }, { accessFlags := 25, nameIndex := 290, descriptorIndex := 25, attributes := #[] }, { accessFlags := 25, nameIndex := 292, descriptorIndex := 25, attributes := #[] }, { accessFlags := 26, nameIndex := 108, descriptorIndex := 109, attributes := #[] }, { accessFlags := 25, nameIndex := 294, descriptorIndex := 25, attributes := #[] }])
  fields := #[{ name := "U", type := (.object "jdk/internal/misc/Unsafe"), accessFlags := 24, slot := 0, constantValue := 0 }, { name := "BIG_ENDIAN", type := .boolean, accessFlags := 26, slot := 1, constantValue := 0 }, { name := "LOG2_ARRAY_BOOLEAN_INDEX_SCALE", type := .int, accessFlags := 25, slot := 2, constantValue := 0 }, { name := "LOG2_ARRAY_BYTE_INDEX_SCALE", type := .int, accessFlags := 25, slot := 3, constantValue := 0 }, { name := "LOG2_ARRAY_CHAR_INDEX_SCALE", type := .int, accessFlags := 25, slot := 4, constantValue := 0 }, { name := "LOG2_ARRAY_SHORT_INDEX_SCALE", type := .int, accessFlags := 25, slot := 5, constantValue := 0 }, { name := "LOG2_ARRAY_INT_INDEX_SCALE", type := .int, accessFlags := 25, slot := 6, constantValue := 0 }, { name := "LOG2_ARRAY_LONG_INDEX_SCALE", type := .int, accessFlags := 25, slot := 7, constantValue := 0 }, { name := "LOG2_ARRAY_FLOAT_INDEX_SCALE", type := .int, accessFlags := 25, slot := 8, constantValue := 0 }, { name := "LOG2_ARRAY_DOUBLE_INDEX_SCALE", type := .int, accessFlags := 25, slot := 9, constantValue := 0 }, { name := "LOG2_BYTE_BIT_SIZE", type := .int, accessFlags := 26, slot := 10, constantValue := 0 }, { name := "T_BOOLEAN", type := .int, accessFlags := 25, slot := 11, constantValue := 0 }, { name := "T_CHAR", type := .int, accessFlags := 25, slot := 12, constantValue := 0 }, { name := "T_FLOAT", type := .int, accessFlags := 25, slot := 13, constantValue := 0 }, { name := "T_DOUBLE", type := .int, accessFlags := 25, slot := 14, constantValue := 0 }, { name := "T_BYTE", type := .int, accessFlags := 25, slot := 15, constantValue := 0 }, { name := "T_SHORT", type := .int, accessFlags := 25, slot := 16, constantValue := 0 }, { name := "T_INT", type := .int, accessFlags := 25, slot := 17, constantValue := 0 }, { name := "T_LONG", type := .int, accessFlags := 25, slot := 18, constantValue := 0 }, { name := "JLA", type := (.object "jdk/internal/access/JavaLangAccess"), accessFlags := 26, slot := 19, constantValue := 0 }, { name := "SOFT_MAX_ARRAY_LENGTH", type := .int, accessFlags := 25, slot := 20, constantValue := 0 }]
  methods := #[k14m0]
  instanceTypes := #[]
  staticTypes := #[(.object "jdk/internal/misc/Unsafe"), .boolean, .int, .int, .int, .int, .int, .int, .int, .int, .int, .int, .int, .int, .int, .int, .int, .int, .int, (.object "jdk/internal/access/JavaLangAccess"), .int]
  resolved := Array.replicate 378 none
  statics := none }

/-- the primitive byte -/
def k15 : Class := { plain "byte" none with kind := .primitive 'B', accessFlags := 0x411 }
/-- [B -/
def k16 : Class := { plain "[B" (some 0) with kind := .array 15 .byte, interfaces := #[13, 2], accessFlags := 1041 }

/-- the primitive char -/
def k17 : Class := { plain "char" none with kind := .primitive 'C', accessFlags := 0x411 }
/-- [C -/
def k18 : Class := { plain "[C" (some 0) with kind := .array 17 .char, interfaces := #[13, 2], accessFlags := 1041 }

/-- the primitive int -/
def k19 : Class := { plain "int" none with kind := .primitive 'I', accessFlags := 0x411 }
/-- [I -/
def k20 : Class := { plain "[I" (some 0) with kind := .array 19 .int, interfaces := #[13, 2], accessFlags := 1041 }

/-- [Lcom/example/role_delegation/roledelegation/RevocationKind; -/
def k21 : Class := { plain "[Lcom/example/role_delegation/roledelegation/RevocationKind;" (some 0) with kind := .array 12 (.object "com/example/role_delegation/roledelegation/RevocationKind"), interfaces := #[13, 2], accessFlags := 1041 }

def heap : Heap := #[{ cls := 7, slots := #[.long 0, .int 1, .null, .int 0, .null, .int 0, .int 0], vm := .statics 7 },
  { cls := 9, slots := #[.null, .null, .null], vm := .statics 9 },
  { cls := 12, slots := #[.ref 4, .ref 5, .ref 3], vm := .statics 12 },
  { cls := 21, slots := #[.ref 4, .ref 5], vm := .none },
  { cls := 12, slots := #[.null, .int 0, .int 0, .ref 6], vm := .none },
  { cls := 12, slots := #[.null, .int 1, .int 0, .ref 7], vm := .none },
  { cls := 7, slots := #[.ref 8, .int 0, .int 0, .int 0], vm := .none },
  { cls := 7, slots := #[.ref 9, .int 0, .int 0, .int 0], vm := .none },
  { cls := 16, slots := #[.int 100, .int 101, .int 112, .int 101, .int 110, .int 100, .int 101, .int 110, .int 116], vm := .none },
  { cls := 16, slots := #[.int 105, .int 110, .int 100, .int 101, .int 112, .int 101, .int 110, .int 100, .int 101, .int 110, .int 116], vm := .none }]
def classes : Array Class := #[k0, k1, k2, k3, k4, k5, k6, k7, k8, k9, k10, k11, k12, k13, k14, k15, k16, k17, k18, k19, k20, k21]
def interned : List (Array UInt16 × Addr) := []
def slotsUsed : Nat := 51
def theMethod : MethodId := ⟨1, 1⟩
def args0 : Array Value := #[.int 0, .int 9, .int 65]
def aboutOver (below : List Frame) : State where
  vm := { classes := classes, interned := interned.toArray }
  heap := heap
  slotsUsed := slotsUsed
  threads := #[{ frames := .invoking theMethod args0 :: below }]
def below0 : List Frame := [.native { method := ⟨0, 0⟩, args := #[] }]
def about1 : State := aboutOver below0
def p0 : Program := .bare "" "" ""
def e0 : Env := launch0.env 0 0 0
theorem w_frames : about1.frames = Frame.invoking theMethod args0 :: below0 := rfl
set_option maxRecDepth 65536 in
theorem w_args : argsFit about1.vm theMethod args0 = true := by decide +kernel
set_option maxRecDepth 65536 in
theorem w_heap : heapFits about1 = true := by decide +kernel
set_option maxRecDepth 65536 in
theorem w_runnable : about1.curStatus? = some .runnable := by decide +kernel
set_option maxRecDepth 65536 in
theorem w_alone : about1.alone = true := by decide +kernel
set_option maxRecDepth 65536 in
theorem w_named : about1.methodNamed? x = some theMethod := by decide +kernel
set_option maxRecDepth 65536 in
theorem w_hears : about1.hears theMethod below0 = true := by decide +kernel
set_option maxRecDepth 65536 in
theorem w_ripe : about1.ripe theMethod args0 below0 = true := by decide +kernel
theorem w_running : about1.status = .running := rfl
set_option maxRecDepth 65536 in
theorem w_room : about1.hasRoom e0.platform room_1 = true :=
  launch0.hasRoom_least _ room_1 (by decide +kernel) (by decide +kernel) (by decide +kernel) (by decide +kernel) (by decide +kernel) (by decide +kernel)
theorem allAtoms_all (ts : List Jvm.Cond) (a : Array Jvm.Value) (st : Jvm.State) : (allAtoms ts).before a st = ts.all (fun c => c.before a st) := by
  induction ts with
  | nil => rfl
  | cons c t ih =>
    show (Jvm.Cond.and c (allAtoms t)).before a st = _
    rw [Jvm.Cond.before_and, ih, List.all_cons]
def words1 : List Jvm.Cond := Jvm.Cond.code x code maxLocals ret :: tables_1
/-- a 'code' word, met by the world's own term for the bytes: nothing is compared byte by byte -/
theorem code_word {y : MethodName} {bytes : ByteArray} {mx : Nat} {rt : Option FieldType} {a : Array Value} {s : State} {m : MethodId} {meth : Method} {c : Code} (h1 : s.methodNamed? y = some m) (h2 : s.vm.method? m = some meth) (h3 : meth.code = some c) (h4 : c.code = bytes)
    (h5 : (c.maxLocals == mx && c.exceptionTable.isEmpty && decide (c.maxStack ≤ mostOperands) && decide (meth.sig.returnType = rt) && !meth.locks && decide (parseMethodDescriptor y.desc = some meth.sig)) = true) : (Jvm.Cond.code y bytes mx rt).before a s = true := by
  simp only [Bool.and_eq_true, beq_iff_eq, Bool.not_eq_true', decide_eq_true_eq] at h5
  obtain ⟨⟨⟨⟨⟨g1, g2⟩, g3⟩, g4⟩, g5⟩, g6⟩ := h5
  simp [Cond.before, Cond.holds, Cond.value, h1, h2, h3, h4, g1, g2, g3, g4, g5, g6]
def isCode : Jvm.Cond → Bool
  | .code _ _ _ _ => true
  | _ => false
theorem all_split {L : List Jvm.Cond} {P : Jvm.Cond → Bool} (h1 : L.all (fun c => isCode c || P c) = true) (h2 : ∀ c ∈ L.filter isCode, P c = true) : L.all P = true := by
  refine List.all_eq_true.mpr fun c hc => ?_
  have h := List.all_eq_true.mp h1 c hc
  rcases Bool.eq_false_or_eq_true (isCode c) with hi | hi
  · exact h2 c (List.mem_filter.mpr ⟨hc, hi⟩)
  · simpa [hi] using h
set_option maxRecDepth 65536 in
theorem w_c0 : (Jvm.Cond.code x code maxLocals ret).before args0 about1 = true := code_word (m := ⟨1, 1⟩) (meth := k1m1) (c := k1c1) (by decide +kernel) rfl rfl rfl (by decide +kernel)
set_option maxRecDepth 65536 in
theorem w_c1 : (Jvm.Cond.code ({ cls := "com/example/role_delegation/roledelegation/RevocationKindNamedPinLaw", name := "w9", desc := "(Ljava/lang/String;IC)Ljava/lang/String;" } : Jvm.MethodName) method_5_code (4 : Nat) (Option.some (Jvm.ClassFile.FieldType.object "java/lang/String"))).before args0 about1 = true := code_word (m := ⟨1, 4⟩) (meth := k1m4) (c := k1c4) (by decide +kernel) rfl rfl rfl (by decide +kernel)
set_option maxRecDepth 65536 in
theorem w_c2 : (Jvm.Cond.code ({ cls := "com/example/role_delegation/roledelegation/RevocationKindNamedPinLaw", name := "g", desc := "(Ljava/lang/String;IIC)C" } : Jvm.MethodName) method_3_code (4 : Nat) (Option.some Jvm.ClassFile.FieldType.char)).before args0 about1 = true := code_word (m := ⟨1, 2⟩) (meth := k1m2) (c := k1c2) (by decide +kernel) rfl rfl rfl (by decide +kernel)
set_option maxRecDepth 65536 in
theorem w_c3 : (Jvm.Cond.code ({ cls := "java/lang/String", name := "length", desc := "()I" } : Jvm.MethodName) jdk_42_method_54_code (1 : Nat) (Option.some Jvm.ClassFile.FieldType.int)).before args0 about1 = true := code_word (m := ⟨7, 2⟩) (meth := k7m2) (c := k7c2) (by decide +kernel) rfl rfl rfl (by decide +kernel)
set_option maxRecDepth 65536 in
theorem w_c4 : (Jvm.Cond.code ({ cls := "java/lang/String", name := "coder", desc := "()B" } : Jvm.MethodName) jdk_42_method_152_code (1 : Nat) (Option.some Jvm.ClassFile.FieldType.byte)).before args0 about1 = true := code_word (m := ⟨7, 8⟩) (meth := k7m8) (c := k7c8) (by decide +kernel) rfl rfl rfl (by decide +kernel)
set_option maxRecDepth 65536 in
theorem w_c5 : (Jvm.Cond.code ({ cls := "java/lang/String", name := "charAt", desc := "(I)C" } : Jvm.MethodName) jdk_42_method_56_code (2 : Nat) (Option.some Jvm.ClassFile.FieldType.char)).before args0 about1 = true := code_word (m := ⟨7, 3⟩) (meth := k7m3) (c := k7c3) (by decide +kernel) rfl rfl rfl (by decide +kernel)
set_option maxRecDepth 65536 in
theorem w_c6 : (Jvm.Cond.code ({ cls := "java/lang/String", name := "isLatin1", desc := "()Z" } : Jvm.MethodName) jdk_42_method_154_code (1 : Nat) (Option.some Jvm.ClassFile.FieldType.boolean)).before args0 about1 = true := code_word (m := ⟨7, 9⟩) (meth := k7m9) (c := k7c9) (by decide +kernel) rfl rfl rfl (by decide +kernel)
set_option maxRecDepth 65536 in
theorem w_c7 : (Jvm.Cond.code ({ cls := "java/lang/StringLatin1", name := "charAt", desc := "([BI)C" } : Jvm.MethodName) jdk_43_method_2_code (2 : Nat) (Option.some Jvm.ClassFile.FieldType.char)).before args0 about1 = true := code_word (m := ⟨8, 1⟩) (meth := k8m1) (c := k8c1) (by decide +kernel) rfl rfl rfl (by decide +kernel)
set_option maxRecDepth 65536 in
theorem w_c8 : (Jvm.Cond.code ({ cls := "java/lang/String", name := "checkIndex", desc := "(II)V" } : Jvm.MethodName) jdk_42_method_155_code (2 : Nat) (Option.none : Option Jvm.ClassFile.FieldType)).before args0 about1 = true := code_word (m := ⟨7, 10⟩) (meth := k7m10) (c := k7c10) (by decide +kernel) rfl rfl rfl (by decide +kernel)
set_option maxRecDepth 65536 in
theorem w_c9 : (Jvm.Cond.code ({ cls := "jdk/internal/util/Preconditions", name := "checkIndex", desc := "(IILjava/util/function/BiFunction;)I" } : Jvm.MethodName) jdk_41_method_11_code (3 : Nat) (Option.some Jvm.ClassFile.FieldType.int)).before args0 about1 = true := code_word (m := ⟨9, 1⟩) (meth := k9m1) (c := k9c1) (by decide +kernel) rfl rfl rfl (by decide +kernel)
set_option maxRecDepth 65536 in
theorem w_c10 : (Jvm.Cond.code ({ cls := "java/lang/String", name := "<init>", desc := "([C)V" } : Jvm.MethodName) jdk_42_method_3_code (2 : Nat) (Option.none : Option Jvm.ClassFile.FieldType)).before args0 about1 = true := code_word (m := ⟨7, 1⟩) (meth := k7m1) (c := k7c1) (by decide +kernel) rfl rfl rfl (by decide +kernel)
set_option maxRecDepth 65536 in
theorem w_c11 : (Jvm.Cond.code ({ cls := "java/lang/String", name := "<init>", desc := "([CIILjava/lang/Void;)V" } : Jvm.MethodName) jdk_42_method_149_code (6 : Nat) (Option.none : Option Jvm.ClassFile.FieldType)).before args0 about1 = true := code_word (m := ⟨7, 6⟩) (meth := k7m6) (c := k7c6) (by decide +kernel) rfl rfl rfl (by decide +kernel)
set_option maxRecDepth 65536 in
theorem w_c12 : (Jvm.Cond.code ({ cls := "java/lang/Object", name := "<init>", desc := "()V" } : Jvm.MethodName) object_method_1_code (1 : Nat) (Option.none : Option Jvm.ClassFile.FieldType)).before args0 about1 = true := code_word (m := ⟨0, 0⟩) (meth := k0m0) (c := k0c0) (by decide +kernel) rfl rfl rfl (by decide +kernel)
set_option maxRecDepth 65536 in
theorem w_c13 : (Jvm.Cond.code ({ cls := "java/lang/StringUTF16", name := "compress", desc := "([CII)[B" } : Jvm.MethodName) jdk_52_method_16_code (6 : Nat) (Option.some (Jvm.ClassFile.FieldType.array Jvm.ClassFile.FieldType.byte))).before args0 about1 = true := code_word (m := ⟨10, 2⟩) (meth := k10m2) (c := k10c2) (by decide +kernel) rfl rfl rfl (by decide +kernel)
set_option maxRecDepth 65536 in
theorem w_c14 : (Jvm.Cond.code ({ cls := "java/lang/StringUTF16", name := "compress", desc := "([CI[BII)I" } : Jvm.MethodName) jdk_52_method_21_code (7 : Nat) (Option.some Jvm.ClassFile.FieldType.int)).before args0 about1 = true := code_word (m := ⟨10, 3⟩) (meth := k10m3) (c := k10c3) (by decide +kernel) rfl rfl rfl (by decide +kernel)
set_option maxRecDepth 65536 in
theorem w_c15 : (Jvm.Cond.code ({ cls := "java/lang/StringUTF16", name := "coderFromArrayLen", desc := "([BI)B" } : Jvm.MethodName) jdk_52_method_15_code (2 : Nat) (Option.some Jvm.ClassFile.FieldType.byte)).before args0 about1 = true := code_word (m := ⟨10, 1⟩) (meth := k10m1) (c := k10c1) (by decide +kernel) rfl rfl rfl (by decide +kernel)
set_option maxRecDepth 65536 in
theorem w_c16 : (Jvm.Cond.code ({ cls := "com/example/role_delegation/roledelegation/RevocationKind", name := "named", desc := "(Ljava/lang/String;)Lcom/example/role_delegation/roledelegation/RevocationKind;" } : Jvm.MethodName) prog_51_method_5_code (6 : Nat) (Option.some (Jvm.ClassFile.FieldType.object "com/example/role_delegation/roledelegation/RevocationKind"))).before args0 about1 = true := code_word (m := ⟨12, 1⟩) (meth := k12m1) (c := k12c1) (by decide +kernel) rfl rfl rfl (by decide +kernel)
set_option maxRecDepth 65536 in
theorem w_c17 : (Jvm.Cond.code ({ cls := "com/example/role_delegation/roledelegation/RevocationKind", name := "values", desc := "()[Lcom/example/role_delegation/roledelegation/RevocationKind;" } : Jvm.MethodName) prog_51_method_1_code (0 : Nat) (Option.some (Jvm.ClassFile.FieldType.array (Jvm.ClassFile.FieldType.object "com/example/role_delegation/roledelegation/RevocationKind")))).before args0 about1 = true := code_word (m := ⟨12, 0⟩) (meth := k12m0) (c := k12c0) (by decide +kernel) rfl rfl rfl (by decide +kernel)
set_option maxRecDepth 65536 in
theorem w_c18 : (Jvm.Cond.code ({ cls := "java/lang/String", name := "equals", desc := "(Ljava/lang/Object;)Z" } : Jvm.MethodName) jdk_42_method_66_code (3 : Nat) (Option.some Jvm.ClassFile.FieldType.boolean)).before args0 about1 = true := code_word (m := ⟨7, 4⟩) (meth := k7m4) (c := k7c4) (by decide +kernel) rfl rfl rfl (by decide +kernel)
set_option maxRecDepth 65536 in
theorem w_c19 : (Jvm.Cond.code ({ cls := "java/lang/StringLatin1", name := "equals", desc := "([B[B)Z" } : Jvm.MethodName) jdk_43_method_13_code (3 : Nat) (Option.some Jvm.ClassFile.FieldType.boolean)).before args0 about1 = true := code_word (m := ⟨8, 3⟩) (meth := k8m3) (c := k8c3) (by decide +kernel) rfl rfl rfl (by decide +kernel)
set_option maxRecDepth 65536 in
theorem w_c20 : (Jvm.Cond.code ({ cls := "com/example/role_delegation/roledelegation/RevocationKindNamedPinLaw", name := "w11", desc := "(Ljava/lang/String;IC)Ljava/lang/String;" } : Jvm.MethodName) method_7_code (4 : Nat) (Option.some (Jvm.ClassFile.FieldType.object "java/lang/String"))).before args0 about1 = true := code_word (m := ⟨1, 6⟩) (meth := k1m6) (c := k1c6) (by decide +kernel) rfl rfl rfl (by decide +kernel)
set_option maxRecDepth 65536 in
theorem w_c21 : (Jvm.Cond.code ({ cls := "com/example/role_delegation/roledelegation/RevocationKindNamedPinLaw", name := "w8", desc := "(Ljava/lang/String;IC)Ljava/lang/String;" } : Jvm.MethodName) method_4_code (4 : Nat) (Option.some (Jvm.ClassFile.FieldType.object "java/lang/String"))).before args0 about1 = true := code_word (m := ⟨1, 3⟩) (meth := k1m3) (c := k1c3) (by decide +kernel) rfl rfl rfl (by decide +kernel)
set_option maxRecDepth 65536 in
theorem w_c22 : (Jvm.Cond.code ({ cls := "com/example/role_delegation/roledelegation/RevocationKindNamedPinLaw", name := "w10", desc := "(Ljava/lang/String;IC)Ljava/lang/String;" } : Jvm.MethodName) method_6_code (4 : Nat) (Option.some (Jvm.ClassFile.FieldType.object "java/lang/String"))).before args0 about1 = true := code_word (m := ⟨1, 5⟩) (meth := k1m5) (c := k1c5) (by decide +kernel) rfl rfl rfl (by decide +kernel)
set_option maxRecDepth 65536 in
theorem w_c23 : (Jvm.Cond.code ({ cls := "com/example/role_delegation/roledelegation/RevocationKindNamedPinLaw", name := "w12", desc := "(Ljava/lang/String;IC)Ljava/lang/String;" } : Jvm.MethodName) method_8_code (4 : Nat) (Option.some (Jvm.ClassFile.FieldType.object "java/lang/String"))).before args0 about1 = true := code_word (m := ⟨1, 7⟩) (meth := k1m7) (c := k1c7) (by decide +kernel) rfl rfl rfl (by decide +kernel)
set_option maxRecDepth 65536 in
theorem w_c24 : (Jvm.Cond.code ({ cls := "java/lang/String", name := "valueOf", desc := "(C)Ljava/lang/String;" } : Jvm.MethodName) jdk_42_method_139_code (1 : Nat) (Option.some (Jvm.ClassFile.FieldType.object "java/lang/String"))).before args0 about1 = true := code_word (m := ⟨7, 5⟩) (meth := k7m5) (c := k7c5) (by decide +kernel) rfl rfl rfl (by decide +kernel)
set_option maxRecDepth 65536 in
theorem w_c25 : (Jvm.Cond.code ({ cls := "java/lang/StringLatin1", name := "canEncode", desc := "(C)Z" } : Jvm.MethodName) jdk_43_method_3_code (1 : Nat) (Option.some Jvm.ClassFile.FieldType.boolean)).before args0 about1 = true := code_word (m := ⟨8, 2⟩) (meth := k8m2) (c := k8c2) (by decide +kernel) rfl rfl rfl (by decide +kernel)
set_option maxRecDepth 65536 in
theorem w_c26 : (Jvm.Cond.code ({ cls := "java/lang/StringLatin1", name := "toBytes", desc := "(C)[B" } : Jvm.MethodName) jdk_43_method_46_code (1 : Nat) (Option.some (Jvm.ClassFile.FieldType.array Jvm.ClassFile.FieldType.byte))).before args0 about1 = true := code_word (m := ⟨8, 4⟩) (meth := k8m4) (c := k8c4) (by decide +kernel) rfl rfl rfl (by decide +kernel)
set_option maxRecDepth 65536 in
theorem w_c27 : (Jvm.Cond.code ({ cls := "java/lang/String", name := "<init>", desc := "([BB)V" } : Jvm.MethodName) jdk_42_method_151_code (3 : Nat) (Option.none : Option Jvm.ClassFile.FieldType)).before args0 about1 = true := code_word (m := ⟨7, 7⟩) (meth := k7m7) (c := k7c7) (by decide +kernel) rfl rfl rfl (by decide +kernel)
def codes1 : List Jvm.Cond := [Jvm.Cond.code x code maxLocals ret, Jvm.Cond.code ({ cls := "com/example/role_delegation/roledelegation/RevocationKindNamedPinLaw", name := "w9", desc := "(Ljava/lang/String;IC)Ljava/lang/String;" } : Jvm.MethodName) method_5_code (4 : Nat) (Option.some (Jvm.ClassFile.FieldType.object "java/lang/String")), Jvm.Cond.code ({ cls := "com/example/role_delegation/roledelegation/RevocationKindNamedPinLaw", name := "g", desc := "(Ljava/lang/String;IIC)C" } : Jvm.MethodName) method_3_code (4 : Nat) (Option.some Jvm.ClassFile.FieldType.char), Jvm.Cond.code ({ cls := "java/lang/String", name := "length", desc := "()I" } : Jvm.MethodName) jdk_42_method_54_code (1 : Nat) (Option.some Jvm.ClassFile.FieldType.int), Jvm.Cond.code ({ cls := "java/lang/String", name := "coder", desc := "()B" } : Jvm.MethodName) jdk_42_method_152_code (1 : Nat) (Option.some Jvm.ClassFile.FieldType.byte), Jvm.Cond.code ({ cls := "java/lang/String", name := "charAt", desc := "(I)C" } : Jvm.MethodName) jdk_42_method_56_code (2 : Nat) (Option.some Jvm.ClassFile.FieldType.char), Jvm.Cond.code ({ cls := "java/lang/String", name := "isLatin1", desc := "()Z" } : Jvm.MethodName) jdk_42_method_154_code (1 : Nat) (Option.some Jvm.ClassFile.FieldType.boolean), Jvm.Cond.code ({ cls := "java/lang/StringLatin1", name := "charAt", desc := "([BI)C" } : Jvm.MethodName) jdk_43_method_2_code (2 : Nat) (Option.some Jvm.ClassFile.FieldType.char), Jvm.Cond.code ({ cls := "java/lang/String", name := "checkIndex", desc := "(II)V" } : Jvm.MethodName) jdk_42_method_155_code (2 : Nat) (Option.none : Option Jvm.ClassFile.FieldType), Jvm.Cond.code ({ cls := "jdk/internal/util/Preconditions", name := "checkIndex", desc := "(IILjava/util/function/BiFunction;)I" } : Jvm.MethodName) jdk_41_method_11_code (3 : Nat) (Option.some Jvm.ClassFile.FieldType.int), Jvm.Cond.code ({ cls := "java/lang/String", name := "<init>", desc := "([C)V" } : Jvm.MethodName) jdk_42_method_3_code (2 : Nat) (Option.none : Option Jvm.ClassFile.FieldType), Jvm.Cond.code ({ cls := "java/lang/String", name := "<init>", desc := "([CIILjava/lang/Void;)V" } : Jvm.MethodName) jdk_42_method_149_code (6 : Nat) (Option.none : Option Jvm.ClassFile.FieldType), Jvm.Cond.code ({ cls := "java/lang/Object", name := "<init>", desc := "()V" } : Jvm.MethodName) object_method_1_code (1 : Nat) (Option.none : Option Jvm.ClassFile.FieldType), Jvm.Cond.code ({ cls := "java/lang/StringUTF16", name := "compress", desc := "([CII)[B" } : Jvm.MethodName) jdk_52_method_16_code (6 : Nat) (Option.some (Jvm.ClassFile.FieldType.array Jvm.ClassFile.FieldType.byte)), Jvm.Cond.code ({ cls := "java/lang/StringUTF16", name := "compress", desc := "([CI[BII)I" } : Jvm.MethodName) jdk_52_method_21_code (7 : Nat) (Option.some Jvm.ClassFile.FieldType.int), Jvm.Cond.code ({ cls := "java/lang/StringUTF16", name := "coderFromArrayLen", desc := "([BI)B" } : Jvm.MethodName) jdk_52_method_15_code (2 : Nat) (Option.some Jvm.ClassFile.FieldType.byte), Jvm.Cond.code ({ cls := "com/example/role_delegation/roledelegation/RevocationKind", name := "named", desc := "(Ljava/lang/String;)Lcom/example/role_delegation/roledelegation/RevocationKind;" } : Jvm.MethodName) prog_51_method_5_code (6 : Nat) (Option.some (Jvm.ClassFile.FieldType.object "com/example/role_delegation/roledelegation/RevocationKind")), Jvm.Cond.code ({ cls := "com/example/role_delegation/roledelegation/RevocationKind", name := "values", desc := "()[Lcom/example/role_delegation/roledelegation/RevocationKind;" } : Jvm.MethodName) prog_51_method_1_code (0 : Nat) (Option.some (Jvm.ClassFile.FieldType.array (Jvm.ClassFile.FieldType.object "com/example/role_delegation/roledelegation/RevocationKind"))), Jvm.Cond.code ({ cls := "java/lang/String", name := "equals", desc := "(Ljava/lang/Object;)Z" } : Jvm.MethodName) jdk_42_method_66_code (3 : Nat) (Option.some Jvm.ClassFile.FieldType.boolean), Jvm.Cond.code ({ cls := "java/lang/StringLatin1", name := "equals", desc := "([B[B)Z" } : Jvm.MethodName) jdk_43_method_13_code (3 : Nat) (Option.some Jvm.ClassFile.FieldType.boolean), Jvm.Cond.code ({ cls := "com/example/role_delegation/roledelegation/RevocationKindNamedPinLaw", name := "w11", desc := "(Ljava/lang/String;IC)Ljava/lang/String;" } : Jvm.MethodName) method_7_code (4 : Nat) (Option.some (Jvm.ClassFile.FieldType.object "java/lang/String")), Jvm.Cond.code ({ cls := "com/example/role_delegation/roledelegation/RevocationKindNamedPinLaw", name := "w8", desc := "(Ljava/lang/String;IC)Ljava/lang/String;" } : Jvm.MethodName) method_4_code (4 : Nat) (Option.some (Jvm.ClassFile.FieldType.object "java/lang/String")), Jvm.Cond.code ({ cls := "com/example/role_delegation/roledelegation/RevocationKindNamedPinLaw", name := "w10", desc := "(Ljava/lang/String;IC)Ljava/lang/String;" } : Jvm.MethodName) method_6_code (4 : Nat) (Option.some (Jvm.ClassFile.FieldType.object "java/lang/String")), Jvm.Cond.code ({ cls := "com/example/role_delegation/roledelegation/RevocationKindNamedPinLaw", name := "w12", desc := "(Ljava/lang/String;IC)Ljava/lang/String;" } : Jvm.MethodName) method_8_code (4 : Nat) (Option.some (Jvm.ClassFile.FieldType.object "java/lang/String")), Jvm.Cond.code ({ cls := "java/lang/String", name := "valueOf", desc := "(C)Ljava/lang/String;" } : Jvm.MethodName) jdk_42_method_139_code (1 : Nat) (Option.some (Jvm.ClassFile.FieldType.object "java/lang/String")), Jvm.Cond.code ({ cls := "java/lang/StringLatin1", name := "canEncode", desc := "(C)Z" } : Jvm.MethodName) jdk_43_method_3_code (1 : Nat) (Option.some Jvm.ClassFile.FieldType.boolean), Jvm.Cond.code ({ cls := "java/lang/StringLatin1", name := "toBytes", desc := "(C)[B" } : Jvm.MethodName) jdk_43_method_46_code (1 : Nat) (Option.some (Jvm.ClassFile.FieldType.array Jvm.ClassFile.FieldType.byte)), Jvm.Cond.code ({ cls := "java/lang/String", name := "<init>", desc := "([BB)V" } : Jvm.MethodName) jdk_42_method_151_code (3 : Nat) (Option.none : Option Jvm.ClassFile.FieldType)]
set_option maxRecDepth 65536 in
theorem codes_eq : words1.filter isCode = codes1 := rfl
theorem w_codes : ∀ c ∈ words1.filter isCode, c.before args0 about1 = true := by
  rw [codes_eq]
  intro c hc
  simp only [codes1, List.mem_cons, List.not_mem_nil, or_false] at hc
  rcases hc with rfl | rfl | rfl | rfl | rfl | rfl | rfl | rfl | rfl | rfl | rfl | rfl | rfl | rfl | rfl | rfl | rfl | rfl | rfl | rfl | rfl | rfl | rfl | rfl | rfl | rfl | rfl | rfl
  · exact w_c0
  · exact w_c1
  · exact w_c2
  · exact w_c3
  · exact w_c4
  · exact w_c5
  · exact w_c6
  · exact w_c7
  · exact w_c8
  · exact w_c9
  · exact w_c10
  · exact w_c11
  · exact w_c12
  · exact w_c13
  · exact w_c14
  · exact w_c15
  · exact w_c16
  · exact w_c17
  · exact w_c18
  · exact w_c19
  · exact w_c20
  · exact w_c21
  · exact w_c22
  · exact w_c23
  · exact w_c24
  · exact w_c25
  · exact w_c26
  · exact w_c27
set_option maxRecDepth 65536 in
theorem w_t1 : (words1.take 24).all (fun c => isCode c || c.before args0 about1) = true := by decide +kernel
set_option maxRecDepth 65536 in
theorem w_t2 : ((words1.drop 24).take 24).all (fun c => isCode c || c.before args0 about1) = true := by decide +kernel
set_option maxRecDepth 65536 in
theorem w_t3 : (((words1.drop 24).drop 24).take 24).all (fun c => isCode c || c.before args0 about1) = true := by decide +kernel
set_option maxRecDepth 65536 in
theorem w_t4 : ((((words1.drop 24).drop 24).drop 24).take 24).all (fun c => isCode c || c.before args0 about1) = true := by decide +kernel
set_option maxRecDepth 65536 in
theorem w_t5 : (((((words1.drop 24).drop 24).drop 24).drop 24).take 24).all (fun c => isCode c || c.before args0 about1) = true := by decide +kernel
set_option maxRecDepth 65536 in
theorem w_t6 : (((((words1.drop 24).drop 24).drop 24).drop 24).drop 24).all (fun c => isCode c || c.before args0 about1) = true := by decide +kernel
theorem w_tables : (allAtoms (Jvm.Cond.code x code maxLocals ret :: tables_1)).before args0 about1 = true := by
  rw [allAtoms_all]
  show words1.all (fun c => c.before args0 about1) = true
  refine all_split ?_ w_codes
  rw [← List.take_append_drop 24 words1, List.all_append, w_t1, ← List.take_append_drop 24 (words1.drop 24), List.all_append, w_t2, ← List.take_append_drop 24 ((words1.drop 24).drop 24), List.all_append, w_t3, ← List.take_append_drop 24 (((words1.drop 24).drop 24).drop 24), List.all_append, w_t4, ← List.take_append_drop 24 ((((words1.drop 24).drop 24).drop 24).drop 24), List.all_append, w_t5, w_t6]
  rfl
set_option maxRecDepth 65536 in
theorem w_rest : rest_1_c.before args0 about1 = true := by decide +kernel
set_option maxRecDepth 65536 in
theorem w_case : (Jvm.Cond.and given_1 narrow_1).before args0 about1 = true := by decide +kernel
set_option maxRecDepth 65536 in
theorem w_consts : constsHeld consts_1 about1 := Jvm.Lit.constsHeldB_iff.mp (by decide +kernel)
theorem w_applies : (headSpec (Jvm.Cond.code x code maxLocals ret :: tables_1) room_1).applies x e0.platform about1 = true :=
  (Spec.applies_iff w_frames).mpr ⟨w_running, w_runnable, w_alone, w_named, w_hears, w_ripe, w_room, w_tables⟩
theorem atStart : AtStart classFile x code maxLocals ret World_1 tables_1 room_1 Calls_1 rest_1 Pre_1 launch0 p0 e0 about1 theMethod args0 below0 :=
  ⟨lists_1, trivial, launch0.admits_env _ _ _, launch0.least_env, fairChoices_fair.cas, fairChoices_fair.clock, w_frames, w_args, w_heap, w_applies, ⟨w_consts, trivial⟩, w_rest, w_case⟩
end start1
theorem witness_1 : WitnessClaimed_1 := ⟨start1.p0, start1.e0, start1.about1, start1.theMethod, start1.args0, start1.below0, start1.atStart⟩
end Jvm.Pilot.@@N@@
