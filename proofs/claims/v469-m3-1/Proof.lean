import JvmDerived
import JvmDerived.Pilot.@@N@@Statement
import JvmDerived.Pilot.@@N@@Code
set_option linter.unusedVariables false
set_option linter.unusedSimpArgs false
namespace Jvm.Pilot.@@N@@
open Jvm Jvm.ClassFile Sem Op Lib Jvm.Free Jvm.Stand Jvm.LawKit Jvm.RoadKit Bundle Jvm.Pilot.@@N@@.Jvm.D
/-- from A the run comes to B -/
def Go (p : Program) (e : Env) (below : List Frame) (A B : State) : Prop := ∀ t, Steps p.tables e below B t → Steps p.tables e below A t
def own_b (P : Prop) [Decidable P] : Int32 := if P then 1 else 0
theorem wd {a0 : Array Value} {Z : State} (hw : ∀ d ∈ tables_1, d.before a0 Z = true) (i : Nat) {d : Jvm.Cond} (h : tables_1[i]? = some d) : d.before a0 Z = true := hw d (List.mem_of_getElem? h)
abbrev Rm (a b c d : Nat) : Room := { frames := a, cells := b, slots := c, locals := d }
theorem own_b1 {P : Prop} [Decidable P] (h : P) : ¬ own_b P = (0 : Int32) := by simp [own_b, h]
theorem own_b0 {P : Prop} [Decidable P] (h : ¬ P) : own_b P = (0 : Int32) := by simp [own_b, h]
theorem own_bt {P : Prop} [Decidable P] (h : P) : own_b P = (1 : Int32) := by simp [own_b, h]
theorem own_nb {P : Prop} [Decidable P] : nar .boolean (own_b P) = own_b P := by by_cases h : P <;> simp [own_b, h] <;> decide
theorem own_beq {P R : Prop} [Decidable P] [Decidable R] (h : P ↔ R) : own_b P = own_b R := by by_cases q : P <;> simp [own_b, q, ← h]
theorem d1_0 : decode method_2_code 0 = .ok (.iload_n 0, 1) := by decide +kernel
theorem d1_1 : decode method_2_code 1 = .ok (.ldc 7, 2) := by decide +kernel
theorem d1_3 : decode method_2_code 3 = .ok (.iand, 1) := by decide +kernel
theorem d1_4 : decode method_2_code 4 = .ok (.ifCond .eq 9, 3) := by decide +kernel
theorem d1_7 : decode method_2_code 7 = .ok (.iload_n 0, 1) := by decide +kernel
theorem d1_8 : decode method_2_code 8 = .ok (.bipush 127, 2) := by decide +kernel
theorem d1_10 : decode method_2_code 10 = .ok (.iand, 1) := by decide +kernel
theorem d1_11 : decode method_2_code 11 = .ok (.i2c, 1) := by decide +kernel
theorem d1_12 : decode method_2_code 12 = .ok (.ireturn, 1) := by decide +kernel
theorem d1_13 : decode method_2_code 13 = .ok (.iload_n 0, 1) := by decide +kernel
theorem d1_14 : decode method_2_code 14 = .ok (.ldc 8, 2) := by decide +kernel
theorem d1_16 : decode method_2_code 16 = .ok (.iand, 1) := by decide +kernel
theorem d1_17 : decode method_2_code 17 = .ok (.i2c, 1) := by decide +kernel
theorem d1_18 : decode method_2_code 18 = .ok (.ireturn, 1) := by decide +kernel
theorem d2_0 : decode jdk_42_method_3_code 0 = .ok (.aload_n 0, 1) := by decide +kernel
theorem d2_1 : decode jdk_42_method_3_code 1 = .ok (.aload_n 1, 1) := by decide +kernel
theorem d2_2 : decode jdk_42_method_3_code 2 = .ok (.iconst 0, 1) := by decide +kernel
theorem d2_3 : decode jdk_42_method_3_code 3 = .ok (.aload_n 1, 1) := by decide +kernel
theorem d2_4 : decode jdk_42_method_3_code 4 = .ok (.arraylength, 1) := by decide +kernel
theorem d2_5 : decode jdk_42_method_3_code 5 = .ok (.aconst_null, 1) := by decide +kernel
theorem d2_6 : decode jdk_42_method_3_code 6 = .ok (.invokespecial 27, 3) := by decide +kernel
theorem d2_9 : decode jdk_42_method_3_code 9 = .ok (.return_, 1) := by decide +kernel
theorem d3_0 : decode jdk_42_method_149_code 0 = .ok (.aload_n 0, 1) := by decide +kernel
theorem d3_1 : decode jdk_42_method_149_code 1 = .ok (.invokespecial 1, 3) := by decide +kernel
theorem d3_4 : decode jdk_42_method_149_code 4 = .ok (.iload_n 3, 1) := by decide +kernel
theorem d3_5 : decode jdk_42_method_149_code 5 = .ok (.ifCond .ne 22, 3) := by decide +kernel
theorem d3_8 : decode jdk_42_method_149_code 8 = .ok (.aload_n 0, 1) := by decide +kernel
theorem d3_9 : decode jdk_42_method_149_code 9 = .ok (.ldc 7, 2) := by decide +kernel
theorem d3_11 : decode jdk_42_method_149_code 11 = .ok (.getfield 9, 3) := by decide +kernel
theorem d3_14 : decode jdk_42_method_149_code 14 = .ok (.putfield 9, 3) := by decide +kernel
theorem d3_17 : decode jdk_42_method_149_code 17 = .ok (.aload_n 0, 1) := by decide +kernel
theorem d3_18 : decode jdk_42_method_149_code 18 = .ok (.ldc 7, 2) := by decide +kernel
theorem d3_20 : decode jdk_42_method_149_code 20 = .ok (.getfield 15, 3) := by decide +kernel
theorem d3_23 : decode jdk_42_method_149_code 23 = .ok (.putfield 15, 3) := by decide +kernel
theorem d3_26 : decode jdk_42_method_149_code 26 = .ok (.return_, 1) := by decide +kernel
theorem d3_27 : decode jdk_42_method_149_code 27 = .ok (.getstatic 38, 3) := by decide +kernel
theorem d3_30 : decode jdk_42_method_149_code 30 = .ok (.ifCond .eq 28, 3) := by decide +kernel
theorem d3_33 : decode jdk_42_method_149_code 33 = .ok (.aload_n 1, 1) := by decide +kernel
theorem d3_34 : decode jdk_42_method_149_code 34 = .ok (.iload_n 2, 1) := by decide +kernel
theorem d3_35 : decode jdk_42_method_149_code 35 = .ok (.iload_n 3, 1) := by decide +kernel
theorem d3_36 : decode jdk_42_method_149_code 36 = .ok (.invokestatic 177, 3) := by decide +kernel
theorem d3_39 : decode jdk_42_method_149_code 39 = .ok (.astore 5, 2) := by decide +kernel
theorem d3_41 : decode jdk_42_method_149_code 41 = .ok (.aload_n 0, 1) := by decide +kernel
theorem d3_42 : decode jdk_42_method_149_code 42 = .ok (.aload 5, 2) := by decide +kernel
theorem d3_44 : decode jdk_42_method_149_code 44 = .ok (.iload_n 3, 1) := by decide +kernel
theorem d3_45 : decode jdk_42_method_149_code 45 = .ok (.invokestatic 47, 3) := by decide +kernel
theorem d3_48 : decode jdk_42_method_149_code 48 = .ok (.putfield 15, 3) := by decide +kernel
theorem d3_51 : decode jdk_42_method_149_code 51 = .ok (.aload_n 0, 1) := by decide +kernel
theorem d3_52 : decode jdk_42_method_149_code 52 = .ok (.aload 5, 2) := by decide +kernel
theorem d3_54 : decode jdk_42_method_149_code 54 = .ok (.putfield 9, 3) := by decide +kernel
theorem d3_57 : decode jdk_42_method_149_code 57 = .ok (.return_, 1) := by decide +kernel
theorem d5_0 : decode prog_38_method_2_code 0 = .ok (.aload_n 0, 1) := by decide +kernel
theorem d5_1 : decode prog_38_method_2_code 1 = .ok (.invokevirtual 7, 3) := by decide +kernel
theorem d5_4 : decode prog_38_method_2_code 4 = .ok (.ifCond .ne 24, 3) := by decide +kernel
theorem d5_7 : decode prog_38_method_2_code 7 = .ok (.aload_n 0, 1) := by decide +kernel
theorem d5_8 : decode prog_38_method_2_code 8 = .ok (.invokevirtual 13, 3) := by decide +kernel
theorem d5_11 : decode prog_38_method_2_code 11 = .ok (.sipush 200, 3) := by decide +kernel
theorem d5_14 : decode prog_38_method_2_code 14 = .ok (.if_icmp .gt 14, 3) := by decide +kernel
theorem d5_17 : decode prog_38_method_2_code 17 = .ok (.aload_n 0, 1) := by decide +kernel
theorem d5_18 : decode prog_38_method_2_code 18 = .ok (.iconst 0, 1) := by decide +kernel
theorem d5_19 : decode prog_38_method_2_code 19 = .ok (.invokevirtual 19, 3) := by decide +kernel
theorem d5_22 : decode prog_38_method_2_code 22 = .ok (.invokestatic 23, 3) := by decide +kernel
theorem d5_25 : decode prog_38_method_2_code 25 = .ok (.ifCond .ne 5, 3) := by decide +kernel
theorem d5_28 : decode prog_38_method_2_code 28 = .ok (.iconst 0, 1) := by decide +kernel
theorem d5_29 : decode prog_38_method_2_code 29 = .ok (.ireturn, 1) := by decide +kernel
theorem d5_30 : decode prog_38_method_2_code 30 = .ok (.iconst 1, 1) := by decide +kernel
theorem d5_31 : decode prog_38_method_2_code 31 = .ok (.istore_n 1, 1) := by decide +kernel
theorem d5_32 : decode prog_38_method_2_code 32 = .ok (.iload_n 1, 1) := by decide +kernel
theorem d5_33 : decode prog_38_method_2_code 33 = .ok (.aload_n 0, 1) := by decide +kernel
theorem d5_34 : decode prog_38_method_2_code 34 = .ok (.invokevirtual 13, 3) := by decide +kernel
theorem d5_37 : decode prog_38_method_2_code 37 = .ok (.if_icmp .ge 48, 3) := by decide +kernel
theorem d5_40 : decode prog_38_method_2_code 40 = .ok (.aload_n 0, 1) := by decide +kernel
theorem d5_41 : decode prog_38_method_2_code 41 = .ok (.iload_n 1, 1) := by decide +kernel
theorem d5_42 : decode prog_38_method_2_code 42 = .ok (.invokevirtual 19, 3) := by decide +kernel
theorem d5_45 : decode prog_38_method_2_code 45 = .ok (.istore_n 2, 1) := by decide +kernel
theorem d5_46 : decode prog_38_method_2_code 46 = .ok (.iload_n 2, 1) := by decide +kernel
theorem d5_47 : decode prog_38_method_2_code 47 = .ok (.invokestatic 23, 3) := by decide +kernel
theorem d5_50 : decode prog_38_method_2_code 50 = .ok (.ifCond .ne 29, 3) := by decide +kernel
theorem d5_53 : decode prog_38_method_2_code 53 = .ok (.iload_n 2, 1) := by decide +kernel
theorem d5_54 : decode prog_38_method_2_code 54 = .ok (.bipush 95, 2) := by decide +kernel
theorem d5_56 : decode prog_38_method_2_code 56 = .ok (.if_icmp .eq 23, 3) := by decide +kernel
theorem d5_59 : decode prog_38_method_2_code 59 = .ok (.iload_n 2, 1) := by decide +kernel
theorem d5_60 : decode prog_38_method_2_code 60 = .ok (.bipush 46, 2) := by decide +kernel
theorem d5_62 : decode prog_38_method_2_code 62 = .ok (.if_icmp .eq 17, 3) := by decide +kernel
theorem d5_65 : decode prog_38_method_2_code 65 = .ok (.iload_n 2, 1) := by decide +kernel
theorem d5_66 : decode prog_38_method_2_code 66 = .ok (.bipush 58, 2) := by decide +kernel
theorem d5_68 : decode prog_38_method_2_code 68 = .ok (.if_icmp .eq 11, 3) := by decide +kernel
theorem d5_71 : decode prog_38_method_2_code 71 = .ok (.iload_n 2, 1) := by decide +kernel
theorem d5_72 : decode prog_38_method_2_code 72 = .ok (.bipush 45, 2) := by decide +kernel
theorem d5_74 : decode prog_38_method_2_code 74 = .ok (.if_icmp .eq 5, 3) := by decide +kernel
theorem d5_77 : decode prog_38_method_2_code 77 = .ok (.iconst 0, 1) := by decide +kernel
theorem d5_78 : decode prog_38_method_2_code 78 = .ok (.ireturn, 1) := by decide +kernel
theorem d5_79 : decode prog_38_method_2_code 79 = .ok (.iinc 1 1, 3) := by decide +kernel
theorem d5_82 : decode prog_38_method_2_code 82 = .ok (.goto (-50), 3) := by decide +kernel
theorem d5_85 : decode prog_38_method_2_code 85 = .ok (.iconst 1, 1) := by decide +kernel
theorem d5_86 : decode prog_38_method_2_code 86 = .ok (.ireturn, 1) := by decide +kernel
theorem d6_0 : decode jdk_42_method_55_code 0 = .ok (.aload_n 0, 1) := by decide +kernel
theorem d6_1 : decode jdk_42_method_55_code 1 = .ok (.getfield 9, 3) := by decide +kernel
theorem d6_4 : decode jdk_42_method_55_code 4 = .ok (.arraylength, 1) := by decide +kernel
theorem d6_5 : decode jdk_42_method_55_code 5 = .ok (.ifCond .ne 7, 3) := by decide +kernel
theorem d6_8 : decode jdk_42_method_55_code 8 = .ok (.iconst 1, 1) := by decide +kernel
theorem d6_9 : decode jdk_42_method_55_code 9 = .ok (.goto 4, 3) := by decide +kernel
theorem d6_12 : decode jdk_42_method_55_code 12 = .ok (.iconst 0, 1) := by decide +kernel
theorem d6_13 : decode jdk_42_method_55_code 13 = .ok (.ireturn, 1) := by decide +kernel
theorem d7_0 : decode jdk_52_method_16_code 0 = .ok (.iload_n 2, 1) := by decide +kernel
theorem d7_1 : decode jdk_52_method_16_code 1 = .ok (.newarray .byte, 2) := by decide +kernel
theorem d7_3 : decode jdk_52_method_16_code 3 = .ok (.astore_n 3, 1) := by decide +kernel
theorem d7_4 : decode jdk_52_method_16_code 4 = .ok (.aload_n 0, 1) := by decide +kernel
theorem d7_5 : decode jdk_52_method_16_code 5 = .ok (.iload_n 1, 1) := by decide +kernel
theorem d7_6 : decode jdk_52_method_16_code 6 = .ok (.aload_n 3, 1) := by decide +kernel
theorem d7_7 : decode jdk_52_method_16_code 7 = .ok (.iconst 0, 1) := by decide +kernel
theorem d7_8 : decode jdk_52_method_16_code 8 = .ok (.iload_n 2, 1) := by decide +kernel
theorem d7_9 : decode jdk_52_method_16_code 9 = .ok (.invokestatic 115, 3) := by decide +kernel
theorem d7_12 : decode jdk_52_method_16_code 12 = .ok (.istore 4, 2) := by decide +kernel
theorem d7_14 : decode jdk_52_method_16_code 14 = .ok (.iload 4, 2) := by decide +kernel
theorem d7_16 : decode jdk_52_method_16_code 16 = .ok (.iload_n 2, 1) := by decide +kernel
theorem d7_17 : decode jdk_52_method_16_code 17 = .ok (.if_icmp .eq 40, 3) := by decide +kernel
theorem d7_20 : decode jdk_52_method_16_code 20 = .ok (.aload_n 0, 1) := by decide +kernel
theorem d7_21 : decode jdk_52_method_16_code 21 = .ok (.iload_n 1, 1) := by decide +kernel
theorem d7_22 : decode jdk_52_method_16_code 22 = .ok (.iload_n 2, 1) := by decide +kernel
theorem d7_23 : decode jdk_52_method_16_code 23 = .ok (.invokestatic 119, 3) := by decide +kernel
theorem d7_26 : decode jdk_52_method_16_code 26 = .ok (.astore 5, 2) := by decide +kernel
theorem d7_28 : decode jdk_52_method_16_code 28 = .ok (.aload 5, 2) := by decide +kernel
theorem d7_30 : decode jdk_52_method_16_code 30 = .ok (.iload 4, 2) := by decide +kernel
theorem d7_32 : decode jdk_52_method_16_code 32 = .ok (.invokestatic 71, 3) := by decide +kernel
theorem d7_35 : decode jdk_52_method_16_code 35 = .ok (.sipush 255, 3) := by decide +kernel
theorem d7_38 : decode jdk_52_method_16_code 38 = .ok (.if_icmp .gt 16, 3) := by decide +kernel
theorem d7_54 : decode jdk_52_method_16_code 54 = .ok (.aload 5, 2) := by decide +kernel
theorem d7_56 : decode jdk_52_method_16_code 56 = .ok (.areturn, 1) := by decide +kernel
theorem d7_57 : decode jdk_52_method_16_code 57 = .ok (.aload_n 3, 1) := by decide +kernel
theorem d7_58 : decode jdk_52_method_16_code 58 = .ok (.areturn, 1) := by decide +kernel
theorem d8_0 : decode jdk_52_method_21_code 0 = .ok (.iconst 0, 1) := by decide +kernel
theorem d8_1 : decode jdk_52_method_21_code 1 = .ok (.istore 5, 2) := by decide +kernel
theorem d8_3 : decode jdk_52_method_21_code 3 = .ok (.iload 5, 2) := by decide +kernel
theorem d8_5 : decode jdk_52_method_21_code 5 = .ok (.iload 4, 2) := by decide +kernel
theorem d8_7 : decode jdk_52_method_21_code 7 = .ok (.if_icmp .ge 37, 3) := by decide +kernel
theorem d8_10 : decode jdk_52_method_21_code 10 = .ok (.aload_n 0, 1) := by decide +kernel
theorem d8_11 : decode jdk_52_method_21_code 11 = .ok (.iload_n 1, 1) := by decide +kernel
theorem d8_12 : decode jdk_52_method_21_code 12 = .ok (.caload, 1) := by decide +kernel
theorem d8_13 : decode jdk_52_method_21_code 13 = .ok (.istore 6, 2) := by decide +kernel
theorem d8_15 : decode jdk_52_method_21_code 15 = .ok (.iload 6, 2) := by decide +kernel
theorem d8_17 : decode jdk_52_method_21_code 17 = .ok (.sipush 255, 3) := by decide +kernel
theorem d8_20 : decode jdk_52_method_21_code 20 = .ok (.if_icmp .le 6, 3) := by decide +kernel
theorem d8_23 : decode jdk_52_method_21_code 23 = .ok (.iload 5, 2) := by decide +kernel
theorem d8_25 : decode jdk_52_method_21_code 25 = .ok (.ireturn, 1) := by decide +kernel
theorem d8_26 : decode jdk_52_method_21_code 26 = .ok (.aload_n 2, 1) := by decide +kernel
theorem d8_27 : decode jdk_52_method_21_code 27 = .ok (.iload_n 3, 1) := by decide +kernel
theorem d8_28 : decode jdk_52_method_21_code 28 = .ok (.iload 6, 2) := by decide +kernel
theorem d8_30 : decode jdk_52_method_21_code 30 = .ok (.i2b, 1) := by decide +kernel
theorem d8_31 : decode jdk_52_method_21_code 31 = .ok (.bastore, 1) := by decide +kernel
theorem d8_32 : decode jdk_52_method_21_code 32 = .ok (.iinc 1 1, 3) := by decide +kernel
theorem d8_35 : decode jdk_52_method_21_code 35 = .ok (.iinc 3 1, 3) := by decide +kernel
theorem d8_38 : decode jdk_52_method_21_code 38 = .ok (.iinc 5 1, 3) := by decide +kernel
theorem d8_41 : decode jdk_52_method_21_code 41 = .ok (.goto (-38), 3) := by decide +kernel
theorem d8_44 : decode jdk_52_method_21_code 44 = .ok (.iload 4, 2) := by decide +kernel
theorem d8_46 : decode jdk_52_method_21_code 46 = .ok (.ireturn, 1) := by decide +kernel
theorem d9_0 : decode jdk_52_method_15_code 0 = .ok (.iload_n 1, 1) := by decide +kernel
theorem d9_1 : decode jdk_52_method_15_code 1 = .ok (.aload_n 0, 1) := by decide +kernel
theorem d9_2 : decode jdk_52_method_15_code 2 = .ok (.arraylength, 1) := by decide +kernel
theorem d9_3 : decode jdk_52_method_15_code 3 = .ok (.isub, 1) := by decide +kernel
theorem d9_4 : decode jdk_52_method_15_code 4 = .ok (.bipush 31, 2) := by decide +kernel
theorem d9_6 : decode jdk_52_method_15_code 6 = .ok (.iushr, 1) := by decide +kernel
theorem d9_7 : decode jdk_52_method_15_code 7 = .ok (.i2b, 1) := by decide +kernel
theorem d9_8 : decode jdk_52_method_15_code 8 = .ok (.ireturn, 1) := by decide +kernel
theorem d10_0 : decode method_3_code 0 = .ok (.iload_n 0, 1) := by decide +kernel
theorem d10_1 : decode method_3_code 1 = .ok (.bipush 32, 2) := by decide +kernel
theorem d10_3 : decode method_3_code 3 = .ok (.ior, 1) := by decide +kernel
theorem d10_4 : decode method_3_code 4 = .ok (.istore_n 1, 1) := by decide +kernel
theorem d10_5 : decode method_3_code 5 = .ok (.iload_n 0, 1) := by decide +kernel
theorem d10_6 : decode method_3_code 6 = .ok (.bipush 48, 2) := by decide +kernel
theorem d10_8 : decode method_3_code 8 = .ok (.if_icmp .lt 9, 3) := by decide +kernel
theorem d10_11 : decode method_3_code 11 = .ok (.iload_n 0, 1) := by decide +kernel
theorem d10_12 : decode method_3_code 12 = .ok (.bipush 57, 2) := by decide +kernel
theorem d10_14 : decode method_3_code 14 = .ok (.if_icmp .le 15, 3) := by decide +kernel
theorem d10_17 : decode method_3_code 17 = .ok (.iload_n 1, 1) := by decide +kernel
theorem d10_18 : decode method_3_code 18 = .ok (.bipush 97, 2) := by decide +kernel
theorem d10_20 : decode method_3_code 20 = .ok (.if_icmp .lt 13, 3) := by decide +kernel
theorem d10_23 : decode method_3_code 23 = .ok (.iload_n 1, 1) := by decide +kernel
theorem d10_24 : decode method_3_code 24 = .ok (.bipush 122, 2) := by decide +kernel
theorem d10_26 : decode method_3_code 26 = .ok (.if_icmp .gt 7, 3) := by decide +kernel
theorem d10_29 : decode method_3_code 29 = .ok (.iconst 1, 1) := by decide +kernel
theorem d10_30 : decode method_3_code 30 = .ok (.goto 4, 3) := by decide +kernel
theorem d10_33 : decode method_3_code 33 = .ok (.iconst 0, 1) := by decide +kernel
theorem d10_34 : decode method_3_code 34 = .ok (.ireturn, 1) := by decide +kernel
theorem d11_0 : decode jdk_42_method_54_code 0 = .ok (.aload_n 0, 1) := by decide +kernel
theorem d11_1 : decode jdk_42_method_54_code 1 = .ok (.getfield 9, 3) := by decide +kernel
theorem d11_4 : decode jdk_42_method_54_code 4 = .ok (.arraylength, 1) := by decide +kernel
theorem d11_5 : decode jdk_42_method_54_code 5 = .ok (.aload_n 0, 1) := by decide +kernel
theorem d11_6 : decode jdk_42_method_54_code 6 = .ok (.invokevirtual 335, 3) := by decide +kernel
theorem d11_9 : decode jdk_42_method_54_code 9 = .ok (.ishr, 1) := by decide +kernel
theorem d11_10 : decode jdk_42_method_54_code 10 = .ok (.ireturn, 1) := by decide +kernel
theorem d12_0 : decode jdk_42_method_152_code 0 = .ok (.getstatic 38, 3) := by decide +kernel
theorem d12_3 : decode jdk_42_method_152_code 3 = .ok (.ifCond .eq 10, 3) := by decide +kernel
theorem d12_6 : decode jdk_42_method_152_code 6 = .ok (.aload_n 0, 1) := by decide +kernel
theorem d12_7 : decode jdk_42_method_152_code 7 = .ok (.getfield 15, 3) := by decide +kernel
theorem d12_10 : decode jdk_42_method_152_code 10 = .ok (.goto 4, 3) := by decide +kernel
theorem d12_14 : decode jdk_42_method_152_code 14 = .ok (.ireturn, 1) := by decide +kernel
theorem d13_0 : decode jdk_42_method_56_code 0 = .ok (.aload_n 0, 1) := by decide +kernel
theorem d13_1 : decode jdk_42_method_56_code 1 = .ok (.invokevirtual 492, 3) := by decide +kernel
theorem d13_4 : decode jdk_42_method_56_code 4 = .ok (.ifCond .eq 12, 3) := by decide +kernel
theorem d13_7 : decode jdk_42_method_56_code 7 = .ok (.aload_n 0, 1) := by decide +kernel
theorem d13_8 : decode jdk_42_method_56_code 8 = .ok (.getfield 9, 3) := by decide +kernel
theorem d13_11 : decode jdk_42_method_56_code 11 = .ok (.iload_n 1, 1) := by decide +kernel
theorem d13_12 : decode jdk_42_method_56_code 12 = .ok (.invokestatic 495, 3) := by decide +kernel
theorem d13_15 : decode jdk_42_method_56_code 15 = .ok (.ireturn, 1) := by decide +kernel
theorem d13_16 : decode jdk_42_method_56_code 16 = .ok (.aload_n 0, 1) := by decide +kernel
theorem d13_17 : decode jdk_42_method_56_code 17 = .ok (.getfield 9, 3) := by decide +kernel
theorem d13_20 : decode jdk_42_method_56_code 20 = .ok (.iload_n 1, 1) := by decide +kernel
theorem d13_21 : decode jdk_42_method_56_code 21 = .ok (.invokestatic 498, 3) := by decide +kernel
theorem d13_24 : decode jdk_42_method_56_code 24 = .ok (.ireturn, 1) := by decide +kernel
theorem d14_0 : decode jdk_42_method_154_code 0 = .ok (.getstatic 38, 3) := by decide +kernel
theorem d14_3 : decode jdk_42_method_154_code 3 = .ok (.ifCond .eq 14, 3) := by decide +kernel
theorem d14_6 : decode jdk_42_method_154_code 6 = .ok (.aload_n 0, 1) := by decide +kernel
theorem d14_7 : decode jdk_42_method_154_code 7 = .ok (.getfield 15, 3) := by decide +kernel
theorem d14_10 : decode jdk_42_method_154_code 10 = .ok (.ifCond .ne 7, 3) := by decide +kernel
theorem d14_13 : decode jdk_42_method_154_code 13 = .ok (.iconst 1, 1) := by decide +kernel
theorem d14_14 : decode jdk_42_method_154_code 14 = .ok (.goto 4, 3) := by decide +kernel
theorem d14_17 : decode jdk_42_method_154_code 17 = .ok (.iconst 0, 1) := by decide +kernel
theorem d14_18 : decode jdk_42_method_154_code 18 = .ok (.ireturn, 1) := by decide +kernel
theorem d15_0 : decode jdk_43_method_2_code 0 = .ok (.iload_n 1, 1) := by decide +kernel
theorem d15_1 : decode jdk_43_method_2_code 1 = .ok (.aload_n 0, 1) := by decide +kernel
theorem d15_2 : decode jdk_43_method_2_code 2 = .ok (.arraylength, 1) := by decide +kernel
theorem d15_3 : decode jdk_43_method_2_code 3 = .ok (.invokestatic 9, 3) := by decide +kernel
theorem d15_6 : decode jdk_43_method_2_code 6 = .ok (.aload_n 0, 1) := by decide +kernel
theorem d15_7 : decode jdk_43_method_2_code 7 = .ok (.iload_n 1, 1) := by decide +kernel
theorem d15_8 : decode jdk_43_method_2_code 8 = .ok (.baload, 1) := by decide +kernel
theorem d15_9 : decode jdk_43_method_2_code 9 = .ok (.sipush 255, 3) := by decide +kernel
theorem d15_12 : decode jdk_43_method_2_code 12 = .ok (.iand, 1) := by decide +kernel
theorem d15_13 : decode jdk_43_method_2_code 13 = .ok (.i2c, 1) := by decide +kernel
theorem d15_14 : decode jdk_43_method_2_code 14 = .ok (.ireturn, 1) := by decide +kernel
theorem d16_0 : decode jdk_42_method_155_code 0 = .ok (.iload_n 0, 1) := by decide +kernel
theorem d16_1 : decode jdk_42_method_155_code 1 = .ok (.iload_n 1, 1) := by decide +kernel
theorem d16_2 : decode jdk_42_method_155_code 2 = .ok (.getstatic 1053, 3) := by decide +kernel
theorem d16_5 : decode jdk_42_method_155_code 5 = .ok (.invokestatic 1059, 3) := by decide +kernel
theorem d16_8 : decode jdk_42_method_155_code 8 = .ok (.pop, 1) := by decide +kernel
theorem d16_9 : decode jdk_42_method_155_code 9 = .ok (.return_, 1) := by decide +kernel
theorem d17_0 : decode jdk_41_method_11_code 0 = .ok (.iload_n 0, 1) := by decide +kernel
theorem d17_1 : decode jdk_41_method_11_code 1 = .ok (.ifCond .lt 8, 3) := by decide +kernel
theorem d17_4 : decode jdk_41_method_11_code 4 = .ok (.iload_n 0, 1) := by decide +kernel
theorem d17_5 : decode jdk_41_method_11_code 5 = .ok (.iload_n 1, 1) := by decide +kernel
theorem d17_6 : decode jdk_41_method_11_code 6 = .ok (.if_icmp .lt 10, 3) := by decide +kernel
theorem d17_16 : decode jdk_41_method_11_code 16 = .ok (.iload_n 0, 1) := by decide +kernel
theorem d17_17 : decode jdk_41_method_11_code 17 = .ok (.ireturn, 1) := by decide +kernel
theorem d18_0 : decode prog_38_method_3_code 0 = .ok (.iload_n 0, 1) := by decide +kernel
theorem d18_1 : decode prog_38_method_3_code 1 = .ok (.bipush 97, 2) := by decide +kernel
theorem d18_3 : decode prog_38_method_3_code 3 = .ok (.if_icmp .lt 9, 3) := by decide +kernel
theorem d18_6 : decode prog_38_method_3_code 6 = .ok (.iload_n 0, 1) := by decide +kernel
theorem d18_7 : decode prog_38_method_3_code 7 = .ok (.bipush 122, 2) := by decide +kernel
theorem d18_9 : decode prog_38_method_3_code 9 = .ok (.if_icmp .le 27, 3) := by decide +kernel
theorem d18_12 : decode prog_38_method_3_code 12 = .ok (.iload_n 0, 1) := by decide +kernel
theorem d18_13 : decode prog_38_method_3_code 13 = .ok (.bipush 65, 2) := by decide +kernel
theorem d18_15 : decode prog_38_method_3_code 15 = .ok (.if_icmp .lt 9, 3) := by decide +kernel
theorem d18_18 : decode prog_38_method_3_code 18 = .ok (.iload_n 0, 1) := by decide +kernel
theorem d18_19 : decode prog_38_method_3_code 19 = .ok (.bipush 90, 2) := by decide +kernel
theorem d18_21 : decode prog_38_method_3_code 21 = .ok (.if_icmp .le 15, 3) := by decide +kernel
theorem d18_24 : decode prog_38_method_3_code 24 = .ok (.iload_n 0, 1) := by decide +kernel
theorem d18_25 : decode prog_38_method_3_code 25 = .ok (.bipush 48, 2) := by decide +kernel
theorem d18_27 : decode prog_38_method_3_code 27 = .ok (.if_icmp .lt 13, 3) := by decide +kernel
theorem d18_30 : decode prog_38_method_3_code 30 = .ok (.iload_n 0, 1) := by decide +kernel
theorem d18_31 : decode prog_38_method_3_code 31 = .ok (.bipush 57, 2) := by decide +kernel
theorem d18_33 : decode prog_38_method_3_code 33 = .ok (.if_icmp .gt 7, 3) := by decide +kernel
theorem d18_36 : decode prog_38_method_3_code 36 = .ok (.iconst 1, 1) := by decide +kernel
theorem d18_37 : decode prog_38_method_3_code 37 = .ok (.goto 4, 3) := by decide +kernel
theorem d18_40 : decode prog_38_method_3_code 40 = .ok (.iconst 0, 1) := by decide +kernel
theorem d18_41 : decode prog_38_method_3_code 41 = .ok (.ireturn, 1) := by decide +kernel
theorem d19_0 : decode method_4_code 0 = .ok (.iload_n 0, 1) := by decide +kernel
theorem d19_1 : decode method_4_code 1 = .ok (.invokestatic 9, 3) := by decide +kernel
theorem d19_4 : decode method_4_code 4 = .ok (.ifCond .ne 27, 3) := by decide +kernel
theorem d19_7 : decode method_4_code 7 = .ok (.iload_n 0, 1) := by decide +kernel
theorem d19_8 : decode method_4_code 8 = .ok (.bipush 95, 2) := by decide +kernel
theorem d19_10 : decode method_4_code 10 = .ok (.if_icmp .eq 21, 3) := by decide +kernel
theorem d19_13 : decode method_4_code 13 = .ok (.iload_n 0, 1) := by decide +kernel
theorem d19_14 : decode method_4_code 14 = .ok (.bipush 46, 2) := by decide +kernel
theorem d19_16 : decode method_4_code 16 = .ok (.if_icmp .eq 15, 3) := by decide +kernel
theorem d19_19 : decode method_4_code 19 = .ok (.iload_n 0, 1) := by decide +kernel
theorem d19_20 : decode method_4_code 20 = .ok (.bipush 58, 2) := by decide +kernel
theorem d19_22 : decode method_4_code 22 = .ok (.if_icmp .eq 9, 3) := by decide +kernel
theorem d19_25 : decode method_4_code 25 = .ok (.iload_n 0, 1) := by decide +kernel
theorem d19_26 : decode method_4_code 26 = .ok (.bipush 45, 2) := by decide +kernel
theorem d19_28 : decode method_4_code 28 = .ok (.if_icmp .ne 7, 3) := by decide +kernel
theorem d19_31 : decode method_4_code 31 = .ok (.iconst 1, 1) := by decide +kernel
theorem d19_32 : decode method_4_code 32 = .ok (.goto 4, 3) := by decide +kernel
theorem d19_35 : decode method_4_code 35 = .ok (.iconst 0, 1) := by decide +kernel
theorem d19_36 : decode method_4_code 36 = .ok (.ireturn, 1) := by decide +kernel
theorem d20_0 : decode jdk_42_method_139_code 0 = .ok (.getstatic 38, 3) := by decide +kernel
theorem d20_3 : decode jdk_42_method_139_code 3 = .ok (.ifCond .eq 23, 3) := by decide +kernel
theorem d20_6 : decode jdk_42_method_139_code 6 = .ok (.iload_n 0, 1) := by decide +kernel
theorem d20_7 : decode jdk_42_method_139_code 7 = .ok (.invokestatic 1015, 3) := by decide +kernel
theorem d20_10 : decode jdk_42_method_139_code 10 = .ok (.ifCond .eq 16, 3) := by decide +kernel
theorem d20_13 : decode jdk_42_method_139_code 13 = .ok (.new 10, 3) := by decide +kernel
theorem d20_16 : decode jdk_42_method_139_code 16 = .ok (.dup, 1) := by decide +kernel
theorem d20_17 : decode jdk_42_method_139_code 17 = .ok (.iload_n 0, 1) := by decide +kernel
theorem d20_18 : decode jdk_42_method_139_code 18 = .ok (.invokestatic 1018, 3) := by decide +kernel
theorem d20_21 : decode jdk_42_method_139_code 21 = .ok (.iconst 0, 1) := by decide +kernel
theorem d20_22 : decode jdk_42_method_139_code 22 = .ok (.invokespecial 209, 3) := by decide +kernel
theorem d20_25 : decode jdk_42_method_139_code 25 = .ok (.areturn, 1) := by decide +kernel
theorem d20_26 : decode jdk_42_method_139_code 26 = .ok (.new 10, 3) := by decide +kernel
theorem d20_29 : decode jdk_42_method_139_code 29 = .ok (.dup, 1) := by decide +kernel
theorem d20_30 : decode jdk_42_method_139_code 30 = .ok (.iload_n 0, 1) := by decide +kernel
theorem d20_31 : decode jdk_42_method_139_code 31 = .ok (.invokestatic 1021, 3) := by decide +kernel
theorem d20_34 : decode jdk_42_method_139_code 34 = .ok (.iconst 1, 1) := by decide +kernel
theorem d20_35 : decode jdk_42_method_139_code 35 = .ok (.invokespecial 209, 3) := by decide +kernel
theorem d20_38 : decode jdk_42_method_139_code 38 = .ok (.areturn, 1) := by decide +kernel
theorem d21_0 : decode jdk_43_method_3_code 0 = .ok (.iload_n 0, 1) := by decide +kernel
theorem d21_1 : decode jdk_43_method_3_code 1 = .ok (.sipush 255, 3) := by decide +kernel
theorem d21_4 : decode jdk_43_method_3_code 4 = .ok (.if_icmp .gt 7, 3) := by decide +kernel
theorem d21_7 : decode jdk_43_method_3_code 7 = .ok (.iconst 1, 1) := by decide +kernel
theorem d21_8 : decode jdk_43_method_3_code 8 = .ok (.goto 4, 3) := by decide +kernel
theorem d21_11 : decode jdk_43_method_3_code 11 = .ok (.iconst 0, 1) := by decide +kernel
theorem d21_12 : decode jdk_43_method_3_code 12 = .ok (.ireturn, 1) := by decide +kernel
theorem d22_0 : decode jdk_43_method_46_code 0 = .ok (.iconst 1, 1) := by decide +kernel
theorem d22_1 : decode jdk_43_method_46_code 1 = .ok (.newarray .byte, 2) := by decide +kernel
theorem d22_3 : decode jdk_43_method_46_code 3 = .ok (.dup, 1) := by decide +kernel
theorem d22_4 : decode jdk_43_method_46_code 4 = .ok (.iconst 0, 1) := by decide +kernel
theorem d22_5 : decode jdk_43_method_46_code 5 = .ok (.iload_n 0, 1) := by decide +kernel
theorem d22_6 : decode jdk_43_method_46_code 6 = .ok (.i2b, 1) := by decide +kernel
theorem d22_7 : decode jdk_43_method_46_code 7 = .ok (.bastore, 1) := by decide +kernel
theorem d22_8 : decode jdk_43_method_46_code 8 = .ok (.areturn, 1) := by decide +kernel
theorem d23_0 : decode jdk_42_method_151_code 0 = .ok (.aload_n 0, 1) := by decide +kernel
theorem d23_1 : decode jdk_42_method_151_code 1 = .ok (.invokespecial 1, 3) := by decide +kernel
theorem d23_4 : decode jdk_42_method_151_code 4 = .ok (.aload_n 0, 1) := by decide +kernel
theorem d23_5 : decode jdk_42_method_151_code 5 = .ok (.aload_n 1, 1) := by decide +kernel
theorem d23_6 : decode jdk_42_method_151_code 6 = .ok (.putfield 9, 3) := by decide +kernel
theorem d23_9 : decode jdk_42_method_151_code 9 = .ok (.aload_n 0, 1) := by decide +kernel
theorem d23_10 : decode jdk_42_method_151_code 10 = .ok (.iload_n 2, 1) := by decide +kernel
theorem d23_11 : decode jdk_42_method_151_code 11 = .ok (.putfield 15, 3) := by decide +kernel
theorem d23_14 : decode jdk_42_method_151_code 14 = .ok (.return_, 1) := by decide +kernel
theorem d24_0 : decode jdk_52_method_14_code 0 = .ok (.iload_n 2, 1) := by decide +kernel
theorem d24_1 : decode jdk_52_method_14_code 1 = .ok (.invokestatic 107, 3) := by decide +kernel
theorem d24_4 : decode jdk_52_method_14_code 4 = .ok (.astore_n 3, 1) := by decide +kernel
theorem d24_5 : decode jdk_52_method_14_code 5 = .ok (.iconst 0, 1) := by decide +kernel
theorem d24_6 : decode jdk_52_method_14_code 6 = .ok (.istore 4, 2) := by decide +kernel
theorem d24_8 : decode jdk_52_method_14_code 8 = .ok (.iload 4, 2) := by decide +kernel
theorem d24_10 : decode jdk_52_method_14_code 10 = .ok (.iload_n 2, 1) := by decide +kernel
theorem d24_11 : decode jdk_52_method_14_code 11 = .ok (.if_icmp .ge 21, 3) := by decide +kernel
theorem d24_14 : decode jdk_52_method_14_code 14 = .ok (.aload_n 3, 1) := by decide +kernel
theorem d24_15 : decode jdk_52_method_14_code 15 = .ok (.iload 4, 2) := by decide +kernel
theorem d24_17 : decode jdk_52_method_14_code 17 = .ok (.aload_n 0, 1) := by decide +kernel
theorem d24_18 : decode jdk_52_method_14_code 18 = .ok (.iload_n 1, 1) := by decide +kernel
theorem d24_19 : decode jdk_52_method_14_code 19 = .ok (.caload, 1) := by decide +kernel
theorem d24_20 : decode jdk_52_method_14_code 20 = .ok (.invokestatic 111, 3) := by decide +kernel
theorem d24_23 : decode jdk_52_method_14_code 23 = .ok (.iinc 1 1, 3) := by decide +kernel
theorem d24_26 : decode jdk_52_method_14_code 26 = .ok (.iinc 4 1, 3) := by decide +kernel
theorem d24_29 : decode jdk_52_method_14_code 29 = .ok (.goto (-21), 3) := by decide +kernel
theorem d24_32 : decode jdk_52_method_14_code 32 = .ok (.aload_n 3, 1) := by decide +kernel
theorem d24_33 : decode jdk_52_method_14_code 33 = .ok (.areturn, 1) := by decide +kernel
theorem d25_0 : decode jdk_52_method_2_code 0 = .ok (.iload_n 0, 1) := by decide +kernel
theorem d25_1 : decode jdk_52_method_2_code 1 = .ok (.invokestatic 11, 3) := by decide +kernel
theorem d25_4 : decode jdk_52_method_2_code 4 = .ok (.newarray .byte, 2) := by decide +kernel
theorem d25_6 : decode jdk_52_method_2_code 6 = .ok (.areturn, 1) := by decide +kernel
theorem d26_0 : decode jdk_52_method_3_code 0 = .ok (.iload_n 0, 1) := by decide +kernel
theorem d26_1 : decode jdk_52_method_3_code 1 = .ok (.ifCond .ge 11, 3) := by decide +kernel
theorem d26_12 : decode jdk_52_method_3_code 12 = .ok (.iload_n 0, 1) := by decide +kernel
theorem d26_13 : decode jdk_52_method_3_code 13 = .ok (.ldc 20, 2) := by decide +kernel
theorem d26_15 : decode jdk_52_method_3_code 15 = .ok (.if_icmp .lt 40, 3) := by decide +kernel
theorem d26_55 : decode jdk_52_method_3_code 55 = .ok (.iload_n 0, 1) := by decide +kernel
theorem d26_56 : decode jdk_52_method_3_code 56 = .ok (.iconst 1, 1) := by decide +kernel
theorem d26_57 : decode jdk_52_method_3_code 57 = .ok (.ishl, 1) := by decide +kernel
theorem d26_58 : decode jdk_52_method_3_code 58 = .ok (.ireturn, 1) := by decide +kernel
theorem d27_0 : decode jdk_52_method_4_code 0 = .ok (.getstatic 44, 3) := by decide +kernel
theorem d27_3 : decode jdk_52_method_4_code 3 = .ok (.ifCond .ne 25, 3) := by decide +kernel
theorem d27_28 : decode jdk_52_method_4_code 28 = .ok (.iload_n 1, 1) := by decide +kernel
theorem d27_29 : decode jdk_52_method_4_code 29 = .ok (.iconst 1, 1) := by decide +kernel
theorem d27_30 : decode jdk_52_method_4_code 30 = .ok (.ishl, 1) := by decide +kernel
theorem d27_31 : decode jdk_52_method_4_code 31 = .ok (.istore_n 1, 1) := by decide +kernel
theorem d27_32 : decode jdk_52_method_4_code 32 = .ok (.aload_n 0, 1) := by decide +kernel
theorem d27_33 : decode jdk_52_method_4_code 33 = .ok (.iload_n 1, 1) := by decide +kernel
theorem d27_34 : decode jdk_52_method_4_code 34 = .ok (.iinc 1 1, 3) := by decide +kernel
theorem d27_37 : decode jdk_52_method_4_code 37 = .ok (.iload_n 2, 1) := by decide +kernel
theorem d27_38 : decode jdk_52_method_4_code 38 = .ok (.getstatic 59, 3) := by decide +kernel
theorem d27_41 : decode jdk_52_method_4_code 41 = .ok (.ishr, 1) := by decide +kernel
theorem d27_42 : decode jdk_52_method_4_code 42 = .ok (.i2b, 1) := by decide +kernel
theorem d27_43 : decode jdk_52_method_4_code 43 = .ok (.bastore, 1) := by decide +kernel
theorem d27_44 : decode jdk_52_method_4_code 44 = .ok (.aload_n 0, 1) := by decide +kernel
theorem d27_45 : decode jdk_52_method_4_code 45 = .ok (.iload_n 1, 1) := by decide +kernel
theorem d27_46 : decode jdk_52_method_4_code 46 = .ok (.iload_n 2, 1) := by decide +kernel
theorem d27_47 : decode jdk_52_method_4_code 47 = .ok (.getstatic 63, 3) := by decide +kernel
theorem d27_50 : decode jdk_52_method_4_code 50 = .ok (.ishr, 1) := by decide +kernel
theorem d27_51 : decode jdk_52_method_4_code 51 = .ok (.i2b, 1) := by decide +kernel
theorem d27_52 : decode jdk_52_method_4_code 52 = .ok (.bastore, 1) := by decide +kernel
theorem d27_53 : decode jdk_52_method_4_code 53 = .ok (.return_, 1) := by decide +kernel
theorem d28_0 : decode jdk_52_method_5_code 0 = .ok (.getstatic 44, 3) := by decide +kernel
theorem d28_3 : decode jdk_52_method_5_code 3 = .ok (.ifCond .ne 25, 3) := by decide +kernel
theorem d28_28 : decode jdk_52_method_5_code 28 = .ok (.iload_n 1, 1) := by decide +kernel
theorem d28_29 : decode jdk_52_method_5_code 29 = .ok (.iconst 1, 1) := by decide +kernel
theorem d28_30 : decode jdk_52_method_5_code 30 = .ok (.ishl, 1) := by decide +kernel
theorem d28_31 : decode jdk_52_method_5_code 31 = .ok (.istore_n 1, 1) := by decide +kernel
theorem d28_32 : decode jdk_52_method_5_code 32 = .ok (.aload_n 0, 1) := by decide +kernel
theorem d28_33 : decode jdk_52_method_5_code 33 = .ok (.iload_n 1, 1) := by decide +kernel
theorem d28_34 : decode jdk_52_method_5_code 34 = .ok (.iinc 1 1, 3) := by decide +kernel
theorem d28_37 : decode jdk_52_method_5_code 37 = .ok (.baload, 1) := by decide +kernel
theorem d28_38 : decode jdk_52_method_5_code 38 = .ok (.sipush 255, 3) := by decide +kernel
theorem d28_41 : decode jdk_52_method_5_code 41 = .ok (.iand, 1) := by decide +kernel
theorem d28_42 : decode jdk_52_method_5_code 42 = .ok (.getstatic 59, 3) := by decide +kernel
theorem d28_45 : decode jdk_52_method_5_code 45 = .ok (.ishl, 1) := by decide +kernel
theorem d28_46 : decode jdk_52_method_5_code 46 = .ok (.aload_n 0, 1) := by decide +kernel
theorem d28_47 : decode jdk_52_method_5_code 47 = .ok (.iload_n 1, 1) := by decide +kernel
theorem d28_48 : decode jdk_52_method_5_code 48 = .ok (.baload, 1) := by decide +kernel
theorem d28_49 : decode jdk_52_method_5_code 49 = .ok (.sipush 255, 3) := by decide +kernel
theorem d28_52 : decode jdk_52_method_5_code 52 = .ok (.iand, 1) := by decide +kernel
theorem d28_53 : decode jdk_52_method_5_code 53 = .ok (.getstatic 63, 3) := by decide +kernel
theorem d28_56 : decode jdk_52_method_5_code 56 = .ok (.ishl, 1) := by decide +kernel
theorem d28_57 : decode jdk_52_method_5_code 57 = .ok (.ior, 1) := by decide +kernel
theorem d28_58 : decode jdk_52_method_5_code 58 = .ok (.i2c, 1) := by decide +kernel
theorem d28_59 : decode jdk_52_method_5_code 59 = .ok (.ireturn, 1) := by decide +kernel
theorem d29_0 : decode jdk_52_method_83_code 0 = .ok (.iload_n 1, 1) := by decide +kernel
theorem d29_1 : decode jdk_52_method_83_code 1 = .ok (.aload_n 0, 1) := by decide +kernel
theorem d29_2 : decode jdk_52_method_83_code 2 = .ok (.invokestatic 67, 3) := by decide +kernel
theorem d29_5 : decode jdk_52_method_83_code 5 = .ok (.aload_n 0, 1) := by decide +kernel
theorem d29_6 : decode jdk_52_method_83_code 6 = .ok (.iload_n 1, 1) := by decide +kernel
theorem d29_7 : decode jdk_52_method_83_code 7 = .ok (.invokestatic 71, 3) := by decide +kernel
theorem d29_10 : decode jdk_52_method_83_code 10 = .ok (.ireturn, 1) := by decide +kernel
theorem d30_0 : decode jdk_52_method_91_code 0 = .ok (.iload_n 0, 1) := by decide +kernel
theorem d30_1 : decode jdk_52_method_91_code 1 = .ok (.aload_n 1, 1) := by decide +kernel
theorem d30_2 : decode jdk_52_method_91_code 2 = .ok (.invokestatic 48, 3) := by decide +kernel
theorem d30_5 : decode jdk_52_method_91_code 5 = .ok (.invokestatic 414, 3) := by decide +kernel
theorem d30_8 : decode jdk_52_method_91_code 8 = .ok (.return_, 1) := by decide +kernel
theorem d31_0 : decode jdk_52_method_6_code 0 = .ok (.aload_n 0, 1) := by decide +kernel
theorem d31_1 : decode jdk_52_method_6_code 1 = .ok (.arraylength, 1) := by decide +kernel
theorem d31_2 : decode jdk_52_method_6_code 2 = .ok (.iconst 1, 1) := by decide +kernel
theorem d31_3 : decode jdk_52_method_6_code 3 = .ok (.ishr, 1) := by decide +kernel
theorem d31_4 : decode jdk_52_method_6_code 4 = .ok (.ireturn, 1) := by decide +kernel
theorem d32_0 : decode jdk_52_method_24_code 0 = .ok (.iconst 2, 1) := by decide +kernel
theorem d32_1 : decode jdk_52_method_24_code 1 = .ok (.newarray .byte, 2) := by decide +kernel
theorem d32_3 : decode jdk_52_method_24_code 3 = .ok (.astore_n 1, 1) := by decide +kernel
theorem d32_4 : decode jdk_52_method_24_code 4 = .ok (.aload_n 1, 1) := by decide +kernel
theorem d32_5 : decode jdk_52_method_24_code 5 = .ok (.iconst 0, 1) := by decide +kernel
theorem d32_6 : decode jdk_52_method_24_code 6 = .ok (.iload_n 0, 1) := by decide +kernel
theorem d32_7 : decode jdk_52_method_24_code 7 = .ok (.invokestatic 111, 3) := by decide +kernel
theorem d32_10 : decode jdk_52_method_24_code 10 = .ok (.aload_n 1, 1) := by decide +kernel
theorem d32_11 : decode jdk_52_method_24_code 11 = .ok (.areturn, 1) := by decide +kernel
theorem pn_0 : plainName "jdk/internal/util/Preconditions" = true := by first | (simp [plainName, overriddenIn]; done) | decide +kernel
theorem pn_1 : plainName "java/lang/String" = true := by first | (simp [plainName, overriddenIn]; done) | decide +kernel
theorem pn_2 : plainName "java/lang/StringUTF16" = true := by first | (simp [plainName, overriddenIn]; done) | decide +kernel
theorem pn_3 : plainName "java/lang/StringLatin1" = true := by first | (simp [plainName, overriddenIn]; done) | decide +kernel
theorem pn_4 : plainName "com/example/role_delegation/roledelegation/Names" = true := by first | (simp [plainName, overriddenIn]; done) | decide +kernel
theorem pn_5 : plainName "com/example/role_delegation/roledelegation/NamesIsValidPinLaw" = true := by first | (simp [plainName, overriddenIn]; done) | decide +kernel
theorem pd_0 : parseMethodDescriptor "(IILjava/util/function/BiFunction;)I" = some ⟨[.int, .int, (.object "java/util/function/BiFunction")], some .int⟩ := by decide +kernel
theorem pd_1 : parseMethodDescriptor "([B)I" = some ⟨[(.array .byte)], some .int⟩ := by decide +kernel
theorem pd_2 : parseMethodDescriptor "(II)V" = some ⟨[.int, .int], none⟩ := by decide +kernel
theorem pd_3 : parseMethodDescriptor "(I[B)V" = some ⟨[.int, (.array .byte)], none⟩ := by decide +kernel
theorem pd_4 : parseMethodDescriptor "([BI)C" = some ⟨[(.array .byte), .int], some .char⟩ := by decide +kernel
theorem pd_5 : parseMethodDescriptor "()B" = some ⟨[], some .byte⟩ := by decide +kernel
theorem pd_6 : parseMethodDescriptor "()Z" = some ⟨[], some .boolean⟩ := by decide +kernel
theorem pd_7 : parseMethodDescriptor "(C)Z" = some ⟨[.char], some .boolean⟩ := by decide +kernel
theorem pd_8 : parseMethodDescriptor "()I" = some ⟨[], some .int⟩ := by decide +kernel
theorem pd_9 : parseMethodDescriptor "(I)C" = some ⟨[.int], some .char⟩ := by decide +kernel
theorem pd_10 : parseMethodDescriptor "(I)I" = some ⟨[.int], some .int⟩ := by decide +kernel
theorem pd_11 : parseMethodDescriptor "(I)[B" = some ⟨[.int], some (.array .byte)⟩ := by decide +kernel
theorem pd_12 : parseMethodDescriptor "([BII)V" = some ⟨[(.array .byte), .int, .int], none⟩ := by decide +kernel
theorem pd_13 : parseMethodDescriptor "([CI[BII)I" = some ⟨[(.array .char), .int, (.array .byte), .int, .int], some .int⟩ := by decide +kernel
theorem pd_14 : parseMethodDescriptor "([CII)[B" = some ⟨[(.array .char), .int, .int], some (.array .byte)⟩ := by decide +kernel
theorem pd_15 : parseMethodDescriptor "([BI)B" = some ⟨[(.array .byte), .int], some .byte⟩ := by decide +kernel
theorem pd_16 : parseMethodDescriptor "([CIILjava/lang/Void;)V" = some ⟨[(.array .char), .int, .int, (.object "java/lang/Void")], none⟩ := by decide +kernel
theorem pd_17 : parseMethodDescriptor "(C)[B" = some ⟨[.char], some (.array .byte)⟩ := by decide +kernel
theorem pd_18 : parseMethodDescriptor "([BB)V" = some ⟨[(.array .byte), .byte], none⟩ := by decide +kernel
theorem pd_19 : parseMethodDescriptor "([C)V" = some ⟨[(.array .char)], none⟩ := by decide +kernel
theorem pd_20 : parseMethodDescriptor "(Ljava/lang/String;)Z" = some ⟨[(.object "java/lang/String")], some .boolean⟩ := by decide +kernel
theorem pd_21 : parseMethodDescriptor "(C)Ljava/lang/String;" = some ⟨[.char], some (.object "java/lang/String")⟩ := by decide +kernel
theorem ef_rmPC (m : MethodId) (x0 : Int32) (x1 : Int32) (x2 : Value) (hx2 : x2.isRef = true) : entryFrame m #[(.int x0), (.int x1), x2] 3 = mkF m 0 #[.val (.int x0), .val (.int x1), .val x2] [] := by (cases x2 <;> first | (simp [Value.isRef] at hx2; done) | skip) <;> first | (simp [entryFrame, mkF, argsToLocals, Value.category]; done) | rfl
theorem ef_rmCI (m : MethodId) (x0 : Int32) (x1 : Int32) : entryFrame m #[(.int x0), (.int x1)] 2 = mkF m 0 #[.val (.int x0), .val (.int x1)] [] := by first | (simp [entryFrame, mkF, argsToLocals, Value.category]; done) | rfl
theorem ef_rmUL (m : MethodId) (x0 : Addr) : entryFrame m #[(.ref x0)] 1 = mkF m 0 #[.val (.ref x0)] [] := by first | (simp [entryFrame, mkF, argsToLocals, Value.category]; done) | rfl
theorem ef_rmGC (m : MethodId) (x0 : Addr) (x1 : Int32) : entryFrame m #[(.ref x0), (.int x1)] 2 = mkF m 0 #[.val (.ref x0), .val (.int x1)] [] := by first | (simp [entryFrame, mkF, argsToLocals, Value.category]; done) | rfl
theorem ef_rmUI (m : MethodId) (x0 : Int32) (x1 : Addr) : entryFrame m #[(.int x0), (.ref x1)] 2 = mkF m 0 #[.val (.int x0), .val (.ref x1)] [] := by first | (simp [entryFrame, mkF, argsToLocals, Value.category]; done) | rfl
theorem ef_rmUC (m : MethodId) (x0 : Addr) (x1 : Int32) : entryFrame m #[(.ref x0), (.int x1)] 2 = mkF m 0 #[.val (.ref x0), .val (.int x1)] [] := by first | (simp [entryFrame, mkF, argsToLocals, Value.category]; done) | rfl
theorem ef_rmLC (m : MethodId) (x0 : Addr) (x1 : Int32) : entryFrame m #[(.ref x0), (.int x1)] 2 = mkF m 0 #[.val (.ref x0), .val (.int x1)] [] := by first | (simp [entryFrame, mkF, argsToLocals, Value.category]; done) | rfl
theorem ef_rmCo0 (m : MethodId) (x0 : Addr) : entryFrame m #[(.ref x0)] 1 = mkF m 0 #[.val (.ref x0)] [] := by first | (simp [entryFrame, mkF, argsToLocals, Value.category]; done) | rfl
theorem ef_rmCo1 (m : MethodId) (x0 : Addr) : entryFrame m #[(.ref x0)] 1 = mkF m 0 #[.val (.ref x0)] [] := by first | (simp [entryFrame, mkF, argsToLocals, Value.category]; done) | rfl
theorem ef_rmIL0 (m : MethodId) (x0 : Addr) : entryFrame m #[(.ref x0)] 1 = mkF m 0 #[.val (.ref x0)] [] := by first | (simp [entryFrame, mkF, argsToLocals, Value.category]; done) | rfl
theorem ef_rmIL1 (m : MethodId) (x0 : Addr) : entryFrame m #[(.ref x0)] 1 = mkF m 0 #[.val (.ref x0)] [] := by first | (simp [entryFrame, mkF, argsToLocals, Value.category]; done) | rfl
theorem ef_rmLeL (m : MethodId) (x0 : Addr) : entryFrame m #[(.ref x0)] 1 = mkF m 0 #[.val (.ref x0)] [] := by first | (simp [entryFrame, mkF, argsToLocals, Value.category]; done) | rfl
theorem ef_rmIEL (m : MethodId) (x0 : Addr) : entryFrame m #[(.ref x0)] 1 = mkF m 0 #[.val (.ref x0)] [] := by first | (simp [entryFrame, mkF, argsToLocals, Value.category]; done) | rfl
theorem ef_rmCAL (m : MethodId) (x0 : Addr) (x1 : Int32) : entryFrame m #[(.ref x0), (.int x1)] 2 = mkF m 0 #[.val (.ref x0), .val (.int x1)] [] := by first | (simp [entryFrame, mkF, argsToLocals, Value.category]; done) | rfl
theorem ef_rmLeU (m : MethodId) (x0 : Addr) : entryFrame m #[(.ref x0)] 1 = mkF m 0 #[.val (.ref x0)] [] := by first | (simp [entryFrame, mkF, argsToLocals, Value.category]; done) | rfl
theorem ef_rmIEU (m : MethodId) (x0 : Addr) : entryFrame m #[(.ref x0)] 1 = mkF m 0 #[.val (.ref x0)] [] := by first | (simp [entryFrame, mkF, argsToLocals, Value.category]; done) | rfl
theorem ef_rmCAU (m : MethodId) (x0 : Addr) (x1 : Int32) : entryFrame m #[(.ref x0), (.int x1)] 2 = mkF m 0 #[.val (.ref x0), .val (.int x1)] [] := by first | (simp [entryFrame, mkF, argsToLocals, Value.category]; done) | rfl
theorem ef_rmIE0 (m : MethodId) (x0 : Addr) : entryFrame m #[(.ref x0)] 1 = mkF m 0 #[.val (.ref x0)] [] := by first | (simp [entryFrame, mkF, argsToLocals, Value.category]; done) | rfl
theorem ef_rmLD (m : MethodId) (x0 : Int32) : entryFrame m #[(.int x0)] 1 = mkF m 0 #[.val (.int x0)] [] := by first | (simp [entryFrame, mkF, argsToLocals, Value.category]; done) | rfl
theorem ef_rmAL (m : MethodId) (x0 : Int32) : entryFrame m #[(.int x0)] 2 = mkF m 0 #[.val (.int x0), .unset] [] := by first | (simp [entryFrame, mkF, argsToLocals, Value.category]; done) | rfl
theorem ef_rmTL (m : MethodId) (x0 : Int32) : entryFrame m #[(.int x0)] 1 = mkF m 0 #[.val (.int x0)] [] := by first | (simp [entryFrame, mkF, argsToLocals, Value.category]; done) | rfl
theorem ef_rmDR (m : MethodId) (x0 : Int32) : entryFrame m #[(.int x0)] 1 = mkF m 0 #[.val (.int x0)] [] := by first | (simp [entryFrame, mkF, argsToLocals, Value.category]; done) | rfl
theorem ef_rmV0 (m : MethodId) (x0 : Addr) : entryFrame m #[(.ref x0)] 3 = mkF m 0 #[.val (.ref x0), .unset, .unset] [] := by first | (simp [entryFrame, mkF, argsToLocals, Value.category]; done) | rfl
theorem ef_rmV1 (m : MethodId) (x0 : Addr) : entryFrame m #[(.ref x0)] 3 = mkF m 0 #[.val (.ref x0), .unset, .unset] [] := by first | (simp [entryFrame, mkF, argsToLocals, Value.category]; done) | rfl
theorem ef_rmV2 (m : MethodId) (x0 : Addr) : entryFrame m #[(.ref x0)] 3 = mkF m 0 #[.val (.ref x0), .unset, .unset] [] := by first | (simp [entryFrame, mkF, argsToLocals, Value.category]; done) | rfl
theorem ef_rmV3 (m : MethodId) (x0 : Addr) : entryFrame m #[(.ref x0)] 3 = mkF m 0 #[.val (.ref x0), .unset, .unset] [] := by first | (simp [entryFrame, mkF, argsToLocals, Value.category]; done) | rfl
theorem ef_rmPu10 (m : MethodId) (x0 : Addr) (x1 : Int32) (x2 : Int32) : entryFrame m #[(.ref x0), (.int x1), (.int x2)] 3 = mkF m 0 #[.val (.ref x0), .val (.int x1), .val (.int x2)] [] := by first | (simp [entryFrame, mkF, argsToLocals, Value.category]; done) | rfl
theorem ef_rmPu20 (m : MethodId) (x0 : Addr) (x1 : Int32) (x2 : Int32) : entryFrame m #[(.ref x0), (.int x1), (.int x2)] 3 = mkF m 0 #[.val (.ref x0), .val (.int x1), .val (.int x2)] [] := by first | (simp [entryFrame, mkF, argsToLocals, Value.category]; done) | rfl
theorem ef_rmPu21 (m : MethodId) (x0 : Addr) (x1 : Int32) (x2 : Int32) : entryFrame m #[(.ref x0), (.int x1), (.int x2)] 3 = mkF m 0 #[.val (.ref x0), .val (.int x1), .val (.int x2)] [] := by first | (simp [entryFrame, mkF, argsToLocals, Value.category]; done) | rfl
theorem ef_rmPu30 (m : MethodId) (x0 : Addr) (x1 : Int32) (x2 : Int32) : entryFrame m #[(.ref x0), (.int x1), (.int x2)] 3 = mkF m 0 #[.val (.ref x0), .val (.int x1), .val (.int x2)] [] := by first | (simp [entryFrame, mkF, argsToLocals, Value.category]; done) | rfl
theorem ef_rmPu31 (m : MethodId) (x0 : Addr) (x1 : Int32) (x2 : Int32) : entryFrame m #[(.ref x0), (.int x1), (.int x2)] 3 = mkF m 0 #[.val (.ref x0), .val (.int x1), .val (.int x2)] [] := by first | (simp [entryFrame, mkF, argsToLocals, Value.category]; done) | rfl
theorem ef_rmPu32 (m : MethodId) (x0 : Addr) (x1 : Int32) (x2 : Int32) : entryFrame m #[(.ref x0), (.int x1), (.int x2)] 3 = mkF m 0 #[.val (.ref x0), .val (.int x1), .val (.int x2)] [] := by first | (simp [entryFrame, mkF, argsToLocals, Value.category]; done) | rfl
theorem ef_rmNL2 (m : MethodId) (x0 : Int32) : entryFrame m #[(.int x0)] 1 = mkF m 0 #[.val (.int x0)] [] := by first | (simp [entryFrame, mkF, argsToLocals, Value.category]; done) | rfl
theorem ef_rmNL3 (m : MethodId) (x0 : Int32) : entryFrame m #[(.int x0)] 1 = mkF m 0 #[.val (.int x0)] [] := by first | (simp [entryFrame, mkF, argsToLocals, Value.category]; done) | rfl
theorem ef_rmNF2 (m : MethodId) (x0 : Int32) : entryFrame m #[(.int x0)] 1 = mkF m 0 #[.val (.int x0)] [] := by first | (simp [entryFrame, mkF, argsToLocals, Value.category]; done) | rfl
theorem ef_rmNF3 (m : MethodId) (x0 : Int32) : entryFrame m #[(.int x0)] 1 = mkF m 0 #[.val (.int x0)] [] := by first | (simp [entryFrame, mkF, argsToLocals, Value.category]; done) | rfl
theorem ef_rmTB2 (m : MethodId) (x0 : Addr) (x1 : Int32) (x2 : Int32) : entryFrame m #[(.ref x0), (.int x1), (.int x2)] 5 = mkF m 0 #[.val (.ref x0), .val (.int x1), .val (.int x2), .unset, .unset] [] := by first | (simp [entryFrame, mkF, argsToLocals, Value.category]; done) | rfl
theorem ef_rmTB3 (m : MethodId) (x0 : Addr) (x1 : Int32) (x2 : Int32) : entryFrame m #[(.ref x0), (.int x1), (.int x2)] 5 = mkF m 0 #[.val (.ref x0), .val (.int x1), .val (.int x2), .unset, .unset] [] := by first | (simp [entryFrame, mkF, argsToLocals, Value.category]; done) | rfl
theorem ef_rmTC0 (m : MethodId) (x0 : Int32) : entryFrame m #[(.int x0)] 1 = mkF m 0 #[.val (.int x0)] [] := by first | (simp [entryFrame, mkF, argsToLocals, Value.category]; done) | rfl
theorem ef_rmTC1 (m : MethodId) (x0 : Int32) : entryFrame m #[(.int x0)] 2 = mkF m 0 #[.val (.int x0), .unset] [] := by first | (simp [entryFrame, mkF, argsToLocals, Value.category]; done) | rfl
theorem ef_rmK20 (m : MethodId) (x0 : Addr) (x1 : Int32) (x2 : Addr) (x3 : Int32) (x4 : Int32) : entryFrame m #[(.ref x0), (.int x1), (.ref x2), (.int x3), (.int x4)] 7 = mkF m 0 #[.val (.ref x0), .val (.int x1), .val (.ref x2), .val (.int x3), .val (.int x4), .unset, .unset] [] := by first | (simp [entryFrame, mkF, argsToLocals, Value.category]; done) | rfl
theorem ef_rmK21 (m : MethodId) (x0 : Addr) (x1 : Int32) (x2 : Addr) (x3 : Int32) (x4 : Int32) : entryFrame m #[(.ref x0), (.int x1), (.ref x2), (.int x3), (.int x4)] 7 = mkF m 0 #[.val (.ref x0), .val (.int x1), .val (.ref x2), .val (.int x3), .val (.int x4), .unset, .unset] [] := by first | (simp [entryFrame, mkF, argsToLocals, Value.category]; done) | rfl
theorem ef_rmK22 (m : MethodId) (x0 : Addr) (x1 : Int32) (x2 : Addr) (x3 : Int32) (x4 : Int32) : entryFrame m #[(.ref x0), (.int x1), (.ref x2), (.int x3), (.int x4)] 7 = mkF m 0 #[.val (.ref x0), .val (.int x1), .val (.ref x2), .val (.int x3), .val (.int x4), .unset, .unset] [] := by first | (simp [entryFrame, mkF, argsToLocals, Value.category]; done) | rfl
theorem ef_rmK30 (m : MethodId) (x0 : Addr) (x1 : Int32) (x2 : Addr) (x3 : Int32) (x4 : Int32) : entryFrame m #[(.ref x0), (.int x1), (.ref x2), (.int x3), (.int x4)] 7 = mkF m 0 #[.val (.ref x0), .val (.int x1), .val (.ref x2), .val (.int x3), .val (.int x4), .unset, .unset] [] := by first | (simp [entryFrame, mkF, argsToLocals, Value.category]; done) | rfl
theorem ef_rmK31 (m : MethodId) (x0 : Addr) (x1 : Int32) (x2 : Addr) (x3 : Int32) (x4 : Int32) : entryFrame m #[(.ref x0), (.int x1), (.ref x2), (.int x3), (.int x4)] 7 = mkF m 0 #[.val (.ref x0), .val (.int x1), .val (.ref x2), .val (.int x3), .val (.int x4), .unset, .unset] [] := by first | (simp [entryFrame, mkF, argsToLocals, Value.category]; done) | rfl
theorem ef_rmK32 (m : MethodId) (x0 : Addr) (x1 : Int32) (x2 : Addr) (x3 : Int32) (x4 : Int32) : entryFrame m #[(.ref x0), (.int x1), (.ref x2), (.int x3), (.int x4)] 7 = mkF m 0 #[.val (.ref x0), .val (.int x1), .val (.ref x2), .val (.int x3), .val (.int x4), .unset, .unset] [] := by first | (simp [entryFrame, mkF, argsToLocals, Value.category]; done) | rfl
theorem ef_rmK33 (m : MethodId) (x0 : Addr) (x1 : Int32) (x2 : Addr) (x3 : Int32) (x4 : Int32) : entryFrame m #[(.ref x0), (.int x1), (.ref x2), (.int x3), (.int x4)] 7 = mkF m 0 #[.val (.ref x0), .val (.int x1), .val (.ref x2), .val (.int x3), .val (.int x4), .unset, .unset] [] := by first | (simp [entryFrame, mkF, argsToLocals, Value.category]; done) | rfl
theorem ef_rmCp2 (m : MethodId) (x0 : Addr) (x1 : Int32) (x2 : Int32) : entryFrame m #[(.ref x0), (.int x1), (.int x2)] 6 = mkF m 0 #[.val (.ref x0), .val (.int x1), .val (.int x2), .unset, .unset, .unset] [] := by first | (simp [entryFrame, mkF, argsToLocals, Value.category]; done) | rfl
theorem ef_rmCp3 (m : MethodId) (x0 : Addr) (x1 : Int32) (x2 : Int32) : entryFrame m #[(.ref x0), (.int x1), (.int x2)] 6 = mkF m 0 #[.val (.ref x0), .val (.int x1), .val (.int x2), .unset, .unset, .unset] [] := by first | (simp [entryFrame, mkF, argsToLocals, Value.category]; done) | rfl
theorem ef_rmCd20 (m : MethodId) (x0 : Addr) (x1 : Int32) : entryFrame m #[(.ref x0), (.int x1)] 2 = mkF m 0 #[.val (.ref x0), .val (.int x1)] [] := by first | (simp [entryFrame, mkF, argsToLocals, Value.category]; done) | rfl
theorem ef_rmCd21 (m : MethodId) (x0 : Addr) (x1 : Int32) : entryFrame m #[(.ref x0), (.int x1)] 2 = mkF m 0 #[.val (.ref x0), .val (.int x1)] [] := by first | (simp [entryFrame, mkF, argsToLocals, Value.category]; done) | rfl
theorem ef_rmCd30 (m : MethodId) (x0 : Addr) (x1 : Int32) : entryFrame m #[(.ref x0), (.int x1)] 2 = mkF m 0 #[.val (.ref x0), .val (.int x1)] [] := by first | (simp [entryFrame, mkF, argsToLocals, Value.category]; done) | rfl
theorem ef_rmCd31 (m : MethodId) (x0 : Addr) (x1 : Int32) : entryFrame m #[(.ref x0), (.int x1)] 2 = mkF m 0 #[.val (.ref x0), .val (.int x1)] [] := by first | (simp [entryFrame, mkF, argsToLocals, Value.category]; done) | rfl
theorem ef_rmJ2 (m : MethodId) (x0 : Addr) (x1 : Addr) (x2 : Int32) (x3 : Int32) : entryFrame m #[(.ref x0), (.ref x1), (.int x2), (.int x3), .null] 6 = mkF m 0 #[.val (.ref x0), .val (.ref x1), .val (.int x2), .val (.int x3), .val .null, .unset] [] := by first | (simp [entryFrame, mkF, argsToLocals, Value.category]; done) | rfl
theorem ef_rmH2 (m : MethodId) (x0 : Addr) (x1 : Addr) : entryFrame m #[(.ref x0), (.ref x1)] 2 = mkF m 0 #[.val (.ref x0), .val (.ref x1)] [] := by first | (simp [entryFrame, mkF, argsToLocals, Value.category]; done) | rfl
theorem ef_rmJ3 (m : MethodId) (x0 : Addr) (x1 : Addr) (x2 : Int32) (x3 : Int32) : entryFrame m #[(.ref x0), (.ref x1), (.int x2), (.int x3), .null] 6 = mkF m 0 #[.val (.ref x0), .val (.ref x1), .val (.int x2), .val (.int x3), .val .null, .unset] [] := by first | (simp [entryFrame, mkF, argsToLocals, Value.category]; done) | rfl
theorem ef_rmH3 (m : MethodId) (x0 : Addr) (x1 : Addr) : entryFrame m #[(.ref x0), (.ref x1)] 2 = mkF m 0 #[.val (.ref x0), .val (.ref x1)] [] := by first | (simp [entryFrame, mkF, argsToLocals, Value.category]; done) | rfl
theorem ef_rmJ0 (m : MethodId) (x0 : Addr) (x1 : Addr) (x2 : Int32) (x3 : Int32) : entryFrame m #[(.ref x0), (.ref x1), (.int x2), (.int x3), .null] 6 = mkF m 0 #[.val (.ref x0), .val (.ref x1), .val (.int x2), .val (.int x3), .val .null, .unset] [] := by first | (simp [entryFrame, mkF, argsToLocals, Value.category]; done) | rfl
theorem ef_rmH0 (m : MethodId) (x0 : Addr) (x1 : Addr) : entryFrame m #[(.ref x0), (.ref x1)] 2 = mkF m 0 #[.val (.ref x0), .val (.ref x1)] [] := by first | (simp [entryFrame, mkF, argsToLocals, Value.category]; done) | rfl
theorem ef_rmCE (m : MethodId) (x0 : Int32) : entryFrame m #[(.int x0)] 1 = mkF m 0 #[.val (.int x0)] [] := by first | (simp [entryFrame, mkF, argsToLocals, Value.category]; done) | rfl
theorem ef_rmBB0 (m : MethodId) (x0 : Addr) (x1 : Addr) (x2 : Int32) : entryFrame m #[(.ref x0), (.ref x1), (.int x2)] 3 = mkF m 0 #[.val (.ref x0), .val (.ref x1), .val (.int x2)] [] := by first | (simp [entryFrame, mkF, argsToLocals, Value.category]; done) | rfl
theorem ef_rmBB1 (m : MethodId) (x0 : Addr) (x1 : Addr) (x2 : Int32) : entryFrame m #[(.ref x0), (.ref x1), (.int x2)] 3 = mkF m 0 #[.val (.ref x0), .val (.ref x1), .val (.int x2)] [] := by first | (simp [entryFrame, mkF, argsToLocals, Value.category]; done) | rfl
theorem ef_rmVO (m : MethodId) (x0 : Int32) : entryFrame m #[(.int x0)] 1 = mkF m 0 #[.val (.int x0)] [] := by first | (simp [entryFrame, mkF, argsToLocals, Value.category]; done) | rfl
theorem ef_rm0 (m : MethodId) (x0 : Int32) (x1 : Int32) (x2 : Int32) (x3 : Int32) : entryFrame m #[(.int x0), (.int x1), (.int x2), (.int x3)] maxLocals = mkF m 0 #[.val (.int x0), .val (.int x1), .val (.int x2), .val (.int x3), .unset, .unset, .unset, .unset, .unset, .unset] [] := by first | (simp [entryFrame, mkF, argsToLocals, Value.category, maxLocals]; done) | rfl
def Qn (h0 : Heap) (n0 : Nat) (v : Option Value) (h : Heap) (L : List Loc) : Prop := v = none ∧ Fr n0 L ∧ h = h0
def Qr (r : Value) (h0 : Heap) (n0 : Nat) (v : Option Value) (h : Heap) (L : List Loc) : Prop := v = some r ∧ Fr n0 L ∧ h = h0
theorem own_eqI {args : Array Value} {s : State} {t : Term} {k : Int32} (h : (Jvm.Cond.eq t (.int k)).value args s none s [] = some true) : t.eval args s none [] s = some (.int k) := by
  simp only [Cond.value, Term.eval] at h
  cases ht : t.eval args s none [] s with
  | none => simp [ht] at h
  | some x => cases x <;> simp [ht] at h ⊢; exact h
theorem own_eqR {args : Array Value} {s : State} {t u : Term} {b : Addr} (h : (Jvm.Cond.eq t u).value args s none s [] = some true) (hu : u.eval args s none [] s = some (.ref b)) : t.eval args s none [] s = some (.ref b) := by
  simp only [Cond.value, hu] at h
  cases ht : t.eval args s none [] s with
  | none => simp [ht] at h
  | some x => cases x <;> simp [ht] at h ⊢; exact h
theorem own_arv {args : Array Value} {s : State} {t : Term} {a : Addr} {cl : Cell} {ty : FieldType} {z : Int32} (A : Arr s s.heap a cl ty) (ht : t.eval args s none [] s = some (.ref a)) (hl : (Term.length t).eval args s none [] s = some (.int z)) : cl.slots.size < 2 ^ 31 ∧ cl.slots.size.toInt32 = z := by
  obtain ⟨b, cell, e1, e2, h31, e3⟩ := Jvm.Lib.length_spec hl
  cases ht.symm.trans e1
  have e4 := A.fin (Vm.Alike.refl _)
  cases e4.symm.trans e2
  exact ⟨h31, (Value.int.inj e3).symm⟩
/-- an array of n places; place j holds g j -/
def Af (Z : State) (h : Heap) (a : Addr) (k : ClassId) (ty : FieldType) (n : Int32) (g : Nat → Value) : Prop := ∃ c : Cell, Arr Z h a c ty ∧ c.cls = k ∧ c.slots.size = n.toNatClampNeg ∧ ¬ n < 0 ∧ ∀ j, j < n.toNatClampNeg → c.slots[j]? = some (g j)
theorem Af.lt {Z : State} {h : Heap} {a : Addr} {k : ClassId} {ty : FieldType} {n : Int32} {g : Nat → Value} (F : Af Z h a k ty n g) : a < h.size := by obtain ⟨c, A, -⟩ := F; exact A.lt
theorem Af.ext {Z : State} {h h' : Heap} {a : Addr} {k : ClassId} {ty : FieldType} {n : Int32} {g : Nat → Value} (F : Af Z h a k ty n g) (E : Ext h h') : Af Z h' a k ty n g := by obtain ⟨c, A, r⟩ := F; exact ⟨c, A.ext E, r⟩
theorem Af.other {Z : State} {h h' : Heap} {a b : Addr} {sl : Nat} {v : Value} {k : ClassId} {ty : FieldType} {n : Int32} {g : Nat → Value} (F : Af Z h b k ty n g) (W : Wr h h' a sl v) (q : b ≠ a) : Af Z h' b k ty n g := by obtain ⟨c, A, r⟩ := F; exact ⟨c, A.other W q, r⟩
theorem Af.keep {Z : State} {h h' : Heap} {a : Addr} {ws : List Addr} {k : ClassId} {ty : FieldType} {n : Int32} {g : Nat → Value} (F : Af Z h a k ty n g) (K : Keep h h' ws) (q : a ∉ ws) : Af Z h' a k ty n g := by obtain ⟨c, A, r⟩ := F; exact ⟨c, ⟨K.2.1 a c A.1 q, A.2⟩, r⟩
theorem Af.of {Z : State} {h : Heap} {a : Addr} {k : ClassId} {ty : FieldType} {n : Int32} {vs : List Value} {d : Value} (F : Arv Z h a k ty n vs d) : Af Z h a k ty n (fun j => vs.getD j d) := by
  obtain ⟨c, A, q, S, M, H, -⟩ := F
  exact ⟨c, A, q, S, M, fun j hj => H j (by rw [S]; exact hj)⟩
theorem Af.set {Z : State} {h h' : Heap} {a : Addr} {c : Cell} {k : ClassId} {ty : FieldType} {n j : Int32} {v : Value} {g : Nat → Value} (A : Arr Z h a c ty) (q : c.cls = k) (S : c.slots.size = n.toNatClampNeg) (M : ¬ n < 0) (H : ∀ j, j < n.toNatClampNeg → c.slots[j]? = some (g j)) (W : Wr h h' a j.toNatClampNeg v) (hj : ¬ (j < 0 ∨ c.slots.size ≤ j.toNatClampNeg)) : Af Z h' a k ty n (fun i => if i = j.toNatClampNeg then v else g i) := by
  refine ⟨_, A.same W, q, (sz_set _ _ _).trans S, M, fun i hi => ?_⟩
  by_cases e : i = j.toNatClampNeg
  · subst e
    have hl : j.toNatClampNeg < c.slots.size := Nat.lt_of_not_le fun y => hj (Or.inr y)
    simp [Cell.setSlot, hl]
  · simp only [e, if_false]
    rw [← H i hi]
    simp [Cell.setSlot, Array.getElem?_setIfInBounds, Ne.symm e]
theorem Af.fn {Z : State} {h : Heap} {a : Addr} {k : ClassId} {ty : FieldType} {n : Int32} {g g' : Nat → Value} (F : Af Z h a k ty n g) (e : ∀ j, j < n.toNatClampNeg → g j = g' j) : Af Z h a k ty n g' := by
  obtain ⟨c, A, q, S, M, H⟩ := F
  exact ⟨c, A, q, S, M, fun j hj => (H j hj).trans (congrArg some (e j hj))⟩
def own_R (c : Int32) : Prop := 0 ≤ c.toInt ∧ c.toInt ≤ 65535
def own_by (c : Int32) : Int32 := c.toInt8.toInt32
def own_lo (c : Int32) : Int32 := (c >>> ((0 : Int32) &&& 31)).toInt8.toInt32
def own_hi (c : Int32) : Int32 := (c >>> ((8 : Int32) &&& 31)).toInt8.toInt32
theorem own_i8i (y : Int32) : y.toInt8.toInt32.toInt8.toInt32 = y.toInt8.toInt32 := by
  have a := c_i2b y
  have b := c_i2b y.toInt8.toInt32
  rw [← Int32.toInt_inj]; omega
theorem own_byN (c : Int32) : nar .byte (own_by c) = own_by c := own_i8i c
theorem own_loN (c : Int32) : nar .byte (own_lo c) = own_lo c := own_i8i _
theorem own_hiN (c : Int32) : nar .byte (own_hi c) = own_hi c := own_i8i _
theorem own_byF (c : Int32) : fits .byte (.int (own_by c)) = true := fits_nar_byte c
theorem own_loF (c : Int32) : fits .byte (.int (own_lo c)) = true := fits_nar_byte _
theorem own_hiF (c : Int32) : fits .byte (.int (own_hi c)) = true := fits_nar_byte _
theorem own_chL {c : Int32} (h : own_R c) (h2 : ¬ (255 : Int32) < c) : (own_by c &&& (255 : Int32)).toUInt32.toUInt16.toUInt32.toInt32 = c := by
  have a := c_i2b c
  have b := c_mask (own_by c) 255 8 (by decide) (by decide)
  have d := c_i2c (own_by c &&& 255)
  have e : (own_by c).toInt = c.toInt8.toInt32.toInt := rfl
  simp only [Int32.lt_iff_toInt_lt, Int32.reduceToInt] at h2
  obtain ⟨q1, q2⟩ := h
  rw [← Int32.toInt_inj]; omega
theorem own_orN (L H : Nat) (hL : L < 256) : L ||| (H * 256) = H * 256 + L := by
  have := Nat.two_pow_add_eq_or_of_lt (i := 8) hL H
  rw [Nat.or_comm, Nat.mul_comm]; exact this.symm
theorem own_shr0 (c : Int32) : c >>> ((0 : Int32) &&& 31) = c := by
  rw [show ((0 : Int32) &&& 31) = 0 from by decide]; simp
theorem own_nn {c : Int32} (h : 0 ≤ c.toInt) : c.toBitVec.toNat = c.toInt.toNat := by
  have e : c.toInt = c.toBitVec.toInt := rfl
  rw [e] at h ⊢
  have := BitVec.toInt_eq_toNat_cond c.toBitVec
  have := c.toBitVec.isLt
  split at * <;> omega
theorem own_ofn {c : Int32} {k : Nat} (h : c.toBitVec.toNat = k) (hk : k < 2147483648) : c.toInt = k := by
  have e : c.toInt = c.toBitVec.toInt := rfl
  rw [e, BitVec.toInt_eq_toNat_cond, h]; simp; omega
theorem own_chU {c : Int32} (h : own_R c) : (((own_lo c &&& (255 : Int32)) <<< ((0 : Int32) &&& 31)) ||| ((own_hi c &&& (255 : Int32)) <<< ((8 : Int32) &&& 31))).toUInt32.toUInt16.toUInt32.toInt32 = c := by
  obtain ⟨q1, q2⟩ := h
  have hs : (c >>> ((8 : Int32) &&& 31)).toInt = c.toInt / 256 := by
    rw [show ((8 : Int32) &&& 31) = 8 from by decide]
    show (c.toBitVec.sshiftRight _).toInt = _
    rw [BitVec.toInt_sshiftRight]
    show c.toInt >>> 8 = _
    rw [Int.shiftRight_eq_div_pow]; rfl
  have a := c_i2b c
  have b := c_mask (own_lo c) 255 8 (by decide) (by decide)
  have e : (own_lo c).toInt = c.toInt8.toInt32.toInt := by unfold own_lo; rw [own_shr0]
  have a2 := c_i2b (c >>> ((8 : Int32) &&& 31))
  have b2 := c_mask (own_hi c) 255 8 (by decide) (by decide)
  have e2 : (own_hi c).toInt = (c >>> ((8 : Int32) &&& 31)).toInt8.toInt32.toInt := rfl
  have hL : (own_lo c &&& 255).toInt = c.toInt % 256 := by omega
  have hH : (own_hi c &&& 255).toInt = c.toInt / 256 := by omega
  have nL := own_nn (c := own_lo c &&& 255) (by omega)
  have nH := own_nn (c := own_hi c &&& 255) (by omega)
  rw [hL] at nL; rw [hH] at nH
  have s0 : (own_lo c &&& (255 : Int32)) <<< ((0 : Int32) &&& 31) = own_lo c &&& 255 := by rw [show ((0 : Int32) &&& 31) = 0 from by decide]; simp
  have s8 : ((own_hi c &&& (255 : Int32)) <<< ((8 : Int32) &&& 31)).toBitVec.toNat = (c.toInt / 256).toNat * 256 := by
    rw [show ((8 : Int32) &&& 31) = 8 from by decide]
    show ((own_hi c &&& 255).toBitVec <<< 8).toNat = _
    rw [BitVec.toNat_shiftLeft, nH, Nat.shiftLeft_eq]; omega
  have o : (((own_lo c &&& (255 : Int32)) <<< ((0 : Int32) &&& 31)) ||| ((own_hi c &&& (255 : Int32)) <<< ((8 : Int32) &&& 31))).toBitVec.toNat = c.toInt.toNat := by
    show (_ ||| _ : BitVec 32).toNat = _
    rw [BitVec.toNat_or, s0, nL, s8, own_orN _ _ (by omega)]; omega
  have z := own_ofn o (by omega)
  have w := c_i2c (((own_lo c &&& (255 : Int32)) <<< ((0 : Int32) &&& 31)) ||| ((own_hi c &&& (255 : Int32)) <<< ((8 : Int32) &&& 31)))
  rw [← Int32.toInt_inj]; omega
def own_ld (c : Int32) : Prop := (¬ c < (97 : Int32) ∧ ¬ (122 : Int32) < c) ∨ (¬ c < (65 : Int32) ∧ ¬ (90 : Int32) < c) ∨ (¬ c < (48 : Int32) ∧ ¬ (57 : Int32) < c)
instance own_ldd (c : Int32) : Decidable (own_ld c) := by unfold own_ld; infer_instance
def own_al (c : Int32) : Prop := (¬ c < (48 : Int32) ∧ ¬ (57 : Int32) < c) ∨ (¬ (c ||| (32 : Int32)) < (97 : Int32) ∧ ¬ (122 : Int32) < (c ||| (32 : Int32)))
instance own_ald (c : Int32) : Decidable (own_al c) := by unfold own_al; infer_instance
def own_tl (c : Int32) : Prop := own_ld c ∨ c = (95 : Int32) ∨ c = (46 : Int32) ∨ c = (58 : Int32) ∨ c = (45 : Int32)
instance own_tld (c : Int32) : Decidable (own_tl c) := by unfold own_tl; infer_instance
theorem own_alN : ∀ k : Nat, k < 128 → (own_ld (Int32.ofNat k) ↔ own_al (Int32.ofNat k)) := by decide +kernel
theorem own_orge {c : Int32} (h : own_R c) : c.toInt ≤ (c ||| (32 : Int32)).toInt := by
  obtain ⟨q1, q2⟩ := h
  have n1 := own_nn q1
  have o : (c ||| (32 : Int32)).toBitVec.toNat = c.toInt.toNat ||| 32 := by
    show (c.toBitVec ||| (32 : Int32).toBitVec).toNat = _
    rw [BitVec.toNat_or, n1]; rfl
  have l1 : c.toInt.toNat ≤ c.toInt.toNat ||| 32 := Nat.left_le_or
  have l2 : c.toInt.toNat ||| 32 < 2 ^ 16 := Nat.or_lt_two_pow (by omega) (by decide)
  have z := own_ofn o (by omega)
  omega
theorem own_alq {c : Int32} (h : own_R c) : own_ld c ↔ own_al c := by
  by_cases q : c.toInt < 128
  · have hz : ¬ c < 0 := by simp only [Int32.lt_iff_toInt_lt, Int32.reduceToInt]; have := h.1; omega
    have e := nat_of hz
    have r : Int32.ofNat c.toNatClampNeg = c := (Jvm.RoadKit.back32 hz).1
    have s := own_alN c.toNatClampNeg (by omega)
    rw [r] at s; exact s
  · have g := own_orge h
    unfold own_ld own_al
    simp only [Int32.lt_iff_toInt_lt, Int32.reduceToInt]
    omega
def own_dr (y : Int32) : Int32 := if y &&& (65536 : Int32) = (0 : Int32) then nar .char (y &&& (65535 : Int32)).toUInt32.toUInt16.toUInt32.toInt32 else nar .char (y &&& (127 : Int32)).toUInt32.toUInt16.toUInt32.toInt32
theorem own_drR {c y : Int32} (e : c = own_dr y) : own_R c := by
  subst e
  unfold own_dr own_R
  split
  · have := c_i2c (y &&& (65535 : Int32)).toUInt32.toUInt16.toUInt32.toInt32
    show 0 ≤ (Int32.toInt (UInt32.toInt32 _)) ∧ (Int32.toInt (UInt32.toInt32 _)) ≤ 65535
    omega
  · have := c_i2c (y &&& (127 : Int32)).toUInt32.toUInt16.toUInt32.toInt32
    show 0 ≤ (Int32.toInt (UInt32.toInt32 _)) ∧ (Int32.toInt (UInt32.toInt32 _)) ≤ 65535
    omega
theorem own_nC {c : Int32} (h : own_R c) : nar .char c = c := by
  have a := c_i2c c
  obtain ⟨q1, q2⟩ := h
  show c.toUInt32.toUInt16.toUInt32.toInt32 = c
  rw [← Int32.toInt_inj]; omega
theorem own_fC {c : Int32} (h : own_R c) : fits .char (.int c) = true := by rw [← own_nC h]; exact fits_nar_char _
theorem own_three (y : Int32) : y &&& (3 : Int32) = (0 : Int32) ∨ y &&& (3 : Int32) = (1 : Int32) ∨ y &&& (3 : Int32) = (2 : Int32) ∨ y &&& (3 : Int32) = (3 : Int32) := by
  have a := c_and y 3 (by decide)
  simp only [← Int32.toInt_inj, Int32.reduceToInt] at *; omega
def own_cf (a b c : Int32) (j : Nat) : Int32 := if j = 0 then a else if j = 1 then b else c
def own_ub (cf : Nat → Int32) (j : Nat) : Int32 := if j % 2 = 0 then own_lo (cf (j / 2)) else own_hi (cf (j / 2))
def own_dbl (n z2 : Int32) : Prop := z2.toInt = 2 * n.toInt ∧ 0 ≤ n.toInt ∧ n.toInt ≤ 3
theorem own_shl1 {i n z2 : Int32} (hz : own_dbl n z2) (hi : ¬ i < 0 ∧ i < n) : (i <<< ((1 : Int32) &&& 31)).toInt = 2 * i.toInt ∧ 0 ≤ i.toInt ∧ i.toInt < n.toInt := by
  have a := c_ishl i 1 1 (by decide)
  have b := rng32 (i <<< ((1 : Int32) &&& 31))
  obtain ⟨q1, q2, q3⟩ := hz
  simp only [Int32.lt_iff_toInt_lt, Int32.reduceToInt] at hi
  omega
theorem own_j0 {i n z2 : Int32} (hz : own_dbl n z2) (hi : ¬ i < 0 ∧ i < n) : ¬ (i <<< ((1 : Int32) &&& 31)) < 0 ∧ (i <<< ((1 : Int32) &&& 31)) < z2 := by
  have a := own_shl1 hz hi
  obtain ⟨q1, q2, q3⟩ := hz
  simp only [Int32.lt_iff_toInt_lt, Int32.reduceToInt]; omega
theorem own_j1i {i n z2 : Int32} (hz : own_dbl n z2) (hi : ¬ i < 0 ∧ i < n) : ((i <<< ((1 : Int32) &&& 31)) + (1 : Int32)).toInt = 2 * i.toInt + 1 := by
  have a := own_shl1 hz hi
  have b := c_iadd (i <<< ((1 : Int32) &&& 31)) 1
  have c := rng32 ((i <<< ((1 : Int32) &&& 31)) + (1 : Int32))
  obtain ⟨q1, q2, q3⟩ := hz
  simp only [Int32.reduceToInt] at *; omega
theorem own_j1 {i n z2 : Int32} (hz : own_dbl n z2) (hi : ¬ i < 0 ∧ i < n) : ¬ ((i <<< ((1 : Int32) &&& 31)) + (1 : Int32)) < 0 ∧ ((i <<< ((1 : Int32) &&& 31)) + (1 : Int32)) < z2 := by
  have a := own_shl1 hz hi
  have b := own_j1i hz hi
  obtain ⟨q1, q2, q3⟩ := hz
  simp only [Int32.lt_iff_toInt_lt, Int32.reduceToInt]; omega
theorem own_ub0 (cf : Nat → Int32) {i n z2 : Int32} (hz : own_dbl n z2) (hi : ¬ i < 0 ∧ i < n) : own_ub cf (i <<< ((1 : Int32) &&& 31)).toNatClampNeg = own_lo (cf i.toNatClampNeg) := by
  have a := own_shl1 hz hi
  have e1 := nat_of (own_j0 hz hi).1
  have e2 := nat_of hi.1
  have e3 : (i <<< ((1 : Int32) &&& 31)).toNatClampNeg = 2 * i.toNatClampNeg := by omega
  unfold own_ub
  rw [e3, if_pos (by omega)]
  rw [show 2 * i.toNatClampNeg / 2 = i.toNatClampNeg from by omega]
theorem own_ub1 (cf : Nat → Int32) {i n z2 : Int32} (hz : own_dbl n z2) (hi : ¬ i < 0 ∧ i < n) : own_ub cf ((i <<< ((1 : Int32) &&& 31)) + (1 : Int32)).toNatClampNeg = own_hi (cf i.toNatClampNeg) := by
  have a := own_shl1 hz hi
  have b := own_j1i hz hi
  have e1 := nat_of (own_j1 hz hi).1
  have e2 := nat_of hi.1
  have e3 : ((i <<< ((1 : Int32) &&& 31)) + (1 : Int32)).toNatClampNeg = 2 * i.toNatClampNeg + 1 := by omega
  unfold own_ub
  rw [e3, if_neg (by omega)]
  rw [show (2 * i.toNatClampNeg + 1) / 2 = i.toNatClampNeg from by omega]
theorem own_half {n z2 : Int32} (hz : own_dbl n z2) : z2 >>> ((1 : Int32) &&& 31) = n := by
  have a := c_ishr z2 1 1 (by decide)
  obtain ⟨q1, q2, q3⟩ := hz
  rw [← Int32.toInt_inj]; omega
theorem own_cL1 (u0 : Int32) : ∀ j, j < (1 : Int32).toNatClampNeg → ([.int (own_by u0)] : List Value).getD j (.int 0) = .int (own_by (own_cf u0 u0 u0 j)) := by
  intro j hj
  have hj' : j < 1 := hj
  match j, hj' with
  | 0, _ => rfl
theorem own_cU1 (u0 : Int32) : ∀ j, j < (2 : Int32).toNatClampNeg → ([.int (own_lo u0), .int (own_hi u0)] : List Value).getD j (.int 0) = .int (own_ub (own_cf u0 u0 u0) j) := by
  intro j hj
  have hj' : j < 2 := hj
  match j, hj' with
  | 0, _ => rfl
  | 1, _ => rfl
theorem own_cL2 (u0 u1 : Int32) : ∀ j, j < (2 : Int32).toNatClampNeg → ([.int (own_by u0), .int (own_by u1)] : List Value).getD j (.int 0) = .int (own_by (own_cf u0 u1 u1 j)) := by
  intro j hj
  have hj' : j < 2 := hj
  match j, hj' with
  | 0, _ => rfl
  | 1, _ => rfl
theorem own_cU2 (u0 u1 : Int32) : ∀ j, j < (4 : Int32).toNatClampNeg → ([.int (own_lo u0), .int (own_hi u0), .int (own_lo u1), .int (own_hi u1)] : List Value).getD j (.int 0) = .int (own_ub (own_cf u0 u1 u1) j) := by
  intro j hj
  have hj' : j < 4 := hj
  match j, hj' with
  | 0, _ => rfl
  | 1, _ => rfl
  | 2, _ => rfl
  | 3, _ => rfl
theorem own_cL3 (u0 u1 u2 : Int32) : ∀ j, j < (3 : Int32).toNatClampNeg → ([.int (own_by u0), .int (own_by u1), .int (own_by u2)] : List Value).getD j (.int 0) = .int (own_by (own_cf u0 u1 u2 j)) := by
  intro j hj
  have hj' : j < 3 := hj
  match j, hj' with
  | 0, _ => rfl
  | 1, _ => rfl
  | 2, _ => rfl
theorem own_cU3 (u0 u1 u2 : Int32) : ∀ j, j < (6 : Int32).toNatClampNeg → ([.int (own_lo u0), .int (own_hi u0), .int (own_lo u1), .int (own_hi u1), .int (own_lo u2), .int (own_hi u2)] : List Value).getD j (.int 0) = .int (own_ub (own_cf u0 u1 u2) j) := by
  intro j hj
  have hj' : j < 6 := hj
  match j, hj' with
  | 0, _ => rfl
  | 1, _ => rfl
  | 2, _ => rfl
  | 3, _ => rfl
  | 4, _ => rfl
  | 5, _ => rfl
theorem own_backC {p : Program} {l : Launch} {e : Env} {R : Room} {s Z : State} {vm0 : Vm} {below : List Frame} {args a0 : Array Value} {EL : List (String × Nat)} {h : Heap} {y : MethodName} {bytes : ByteArray} {maxL : Nat} {ret : Option FieldType} {rm : Room} {len W : Nat} {as' : Array Value} {Qv : Option Value → Heap → List Loc → Prop}
    (hM : MetFree l y (head1 [Cond.code y bytes maxL ret] rm) (fun a U => a = as' ∧ Z.Warmed39 U.vm ∧ U.heap = h ∧ CHv Z EL U.vm h) (fun _ _ _ _ _ => True) (fun _ U o U' => ∃ v L, o = .returned v ∧ Qv v U'.heap L ∧ ReturnedEndW U o U' L rm.cells rm.slots))
    (hZ : Z.Warmed39 vm0) (wc : (Cond.code y bytes maxL ret).before a0 Z = true) (wz : (Cond.initialized y.cls).before a0 Z = true) (hf : rm.frames + 1 ≤ R.frames) (hl : W + (maxL + 11) + rm.locals ≤ R.locals) (hEL : EW Z a0 EL) (H : CHv Z EL vm0 h) :
    BackS l R p e below (s.setVm vm0) args y len W (fun A a => a = as' ∧ A.U.heap = h ∧ A.cells + rm.cells ≤ R.cells ∧ A.slots + rm.slots ≤ R.slots) (fun A _ v B => ∃ L, Qv v B.U.heap L ∧ B.locs = A.locs ++ L ∧ B.cells = A.cells + rm.cells ∧ B.slots = A.slots + rm.slots) := by
  refine BackS.of_freeW (bytes := bytes) (maxL := maxL) (ret := ret) (E := fun _ _ o t L k n => k = rm.cells ∧ n = rm.slots ∧ ∃ v, o = .returned v ∧ Qv v t.heap L) hM hf hl ?_ ?_ (fun _ _ _ _ _ _ _ _ _ => trivial) ?_ ?_
  · intro m meth c A a Y hp
    have hU : Z.Warmed39 A.U.vm := wtrans (s := s.setVm vm0) hZ Y.warmed
    refine ⟨?_, mv hU wc, mv hU wz, hp.2.2.1, hp.2.2.2⟩
    show (Cond.and _ .tt).before a A.U = true
    rw [Cond.before_and, mv hU wc]; rfl
  · intro m meth c A a g mk Y hp
    exact ⟨hp.1, wtrans (s := s.setVm vm0) hZ Y.warmed, hp.2.1, (CHv.at Y hZ hEL H).1⟩
  · intro a first o t hq
    obtain ⟨v, L, h1, h2, h3⟩ := hq
    exact ⟨L, _, _, h3, rfl, rfl, v, h1, h2⟩
  · intro m meth c A a g mk v t L k n Y hp hq hr he
    obtain ⟨e1, e2, v', e3, e4⟩ := he
    cases e3
    subst e1 e2
    exact ⟨L, e4, rfl, rfl, rfl⟩
set_option maxRecDepth 65536 in
set_option maxHeartbeats 40000000 in
theorem rmPC (l : Launch) (Z : State) (a0 : Array Value) (hw : ∀ d ∈ tables_1, d.before a0 Z = true) (ws : List Jvm.Cond) (i_ n_ : Int32) (fo : Value) (h0 : Heap) (n0 : Nat) (Z0 : n0 ≤ h0.size) (hfo : fo.isRef = true) (hi : ¬ i_ < (0 : Int32) ∧ i_ < n_) :
    MetFree l (⟨"jdk/internal/util/Preconditions", "checkIndex", "(IILjava/util/function/BiFunction;)I"⟩ : MethodName) (head1 (Jvm.Cond.code (⟨"jdk/internal/util/Preconditions", "checkIndex", "(IILjava/util/function/BiFunction;)I"⟩ : MethodName) jdk_41_method_11_code 3 (some .int) :: ws) (Rm 0 0 0 0)) (fun aa UU => aa = #[(.int i_), (.int n_), fo] ∧ Z.Warmed39 UU.vm ∧ UU.heap = h0) (fun _ _ _ _ _ => True) (fun _ UU oo U' => ∃ v L, oo = .returned v ∧ Qr (.int i_) h0 n0 v U'.heap L ∧ FrameEnd UU oo U' L (Rm 0 0 0 0).cells (Rm 0 0 0 0).slots) := by
  refine MetFree.of_bodySF (plainFor_of_name pn_0) hisR ?_
  intro p e s m args below meth c s₁ Bd hml0 hP hK
  obtain ⟨rfl, hZ, hh⟩ := hP
  have hx := Bd.exec
  have hby := Bd.bytes
  have hml : c.maxLocals = 3 := hml0
  have hown : s.vm.findClass "jdk/internal/util/Preconditions" = some m.cls := findClass_of_methodNamed Bd.named
  have hnm := (name_of_methodNamed Bd.named Bd.method).1
  have X0 : Stand p l e (Rm 0 0 0 0) s m #[(.int i_), (.int n_), fo] below meth c s₁ [] 0 0 := Stand.of_body Bd
  have e0 : s₁.heap = h0 := by rw [← hh, Bd.state]; rfl
  have N0 := Fr.nil n0
  obtain ⟨A0, hA0⟩ : ∃ A, A = s₁.setTop (entryFrame m #[(.int i_), (.int n_), fo] 3) := ⟨_, rfl⟩
  have G0 : Go p e below A0 (s₁.setTop (mkF m 0 #[.val (.int i_), .val (.int n_), .val fo] [])) := fun tq kq => by rw [hA0]; exact castTop (ef_rmPC m i_ n_ fo hfo) kq
  have G1 : Go p e below A0 (s₁.setTop (mkF m 17 #[.val (.int i_), .val (.int n_), .val fo] [(.int i_)])) := fun tq kq => G0 tq (by
    refine XS.iloadN X0.here hx rfl (hb hby d17_0) rfl ?_
    refine XS.ifNo X0.here hx rfl (hb hby d17_1) rfl ((if0 _ _).trans (flt hi.1).1) ?_
    refine XS.iloadN X0.here hx rfl (hb hby d17_4) rfl ?_
    refine XS.iloadN X0.here hx rfl (hb hby d17_5) rfl ?_
    refine XS.icmpYes X0.here hx rfl (pc0 := 6) (pc' := 16) rfl (hb hby d17_6) rfl (tlt hi.2).1 (by decide) (by decide) ?_
    refine XS.iloadN X0.here hx rfl (hb hby d17_16) rfl ?_
    exact kq)
  obtain ⟨fs, hr, hrun, hended, hW, hsame⟩ := X0.leave (v := some (.int i_)) (fun h => by rw [Bd.returns] at h; cases h)
  refine ⟨_, _, (by rw [← hA0]; exact G1 _ (retOut X0 hx (t := .int) Bd.returns rfl (Or.inl ⟨rfl, Or.inl rfl, _, rfl⟩) (hb hby d17_17) hr)), hrun, hended, _, _, rfl, ?_, ⟨_, rfl⟩, hW, hsame.mono (by decide) (by decide)⟩
  exact ⟨rfl, N0, e0⟩
set_option maxRecDepth 65536 in
set_option maxHeartbeats 40000000 in
theorem rmCI (l : Launch) (Z : State) (a0 : Array Value) (hw : ∀ d ∈ tables_1, d.before a0 Z = true) (ws : List Jvm.Cond) (i_ n_ : Int32) (cs : Int32) (fo : Value) (h0 : Heap) (n0 : Nat) (Z0 : n0 ≤ h0.size) (hCS : Sta Z Z.heap "java/lang/String" "COMPACT_STRINGS" "Z" (.int cs)) (hcs : ¬ cs = (0 : Int32)) (hSF : Sta Z Z.heap "jdk/internal/util/Preconditions" "SIOOBE_FORMATTER" "Ljava/util/function/BiFunction;" fo) (hfo : fo.isRef = true) (hAD : Sta Z Z.heap "java/lang/StringUTF16" "$assertionsDisabled" "Z" (.int 1)) (hHI : Sta Z Z.heap "java/lang/StringUTF16" "HI_BYTE_SHIFT" "I" (.int 0)) (hLO : Sta Z Z.heap "java/lang/StringUTF16" "LO_BYTE_SHIFT" "I" (.int 8)) (hold : Old Z n0 h0) (hi : ¬ i_ < (0 : Int32) ∧ i_ < n_) :
    MetFree l (⟨"java/lang/String", "checkIndex", "(II)V"⟩ : MethodName) (head1 (Jvm.Cond.code (⟨"java/lang/String", "checkIndex", "(II)V"⟩ : MethodName) jdk_42_method_155_code 2 none :: ws) (Rm 1 0 0 14)) (fun aa UU => aa = #[(.int i_), (.int n_)] ∧ Z.Warmed39 UU.vm ∧ UU.heap = h0) (fun _ _ _ _ _ => True) (fun _ UU oo U' => ∃ v L, oo = .returned v ∧ Qn h0 n0 v U'.heap L ∧ FrameEnd UU oo U' L (Rm 1 0 0 14).cells (Rm 1 0 0 14).slots) := by
  refine MetFree.of_bodySF (plainFor_of_name pn_1) hisR ?_
  intro p e s m args below meth c s₁ Bd hml0 hP hK
  obtain ⟨rfl, hZ, hh⟩ := hP
  have hx := Bd.exec
  have hby := Bd.bytes
  have hml : c.maxLocals = 2 := hml0
  have hown : s.vm.findClass "java/lang/String" = some m.cls := findClass_of_methodNamed Bd.named
  have hnm := (name_of_methodNamed Bd.named Bd.method).1
  have X0 : Stand p l e (Rm 1 0 0 14) s m #[(.int i_), (.int n_)] below meth c s₁ [] 0 0 := Stand.of_body Bd
  have e0 : s₁.heap = h0 := by rw [← hh, Bd.state]; rfl
  have N0 := Fr.nil n0
  obtain ⟨A0, hA0⟩ : ∃ A, A = s₁.setTop (entryFrame m #[(.int i_), (.int n_)] 2) := ⟨_, rfl⟩
  have G0 : Go p e below A0 (s₁.setTop (mkF m 0 #[.val (.int i_), .val (.int n_)] [])) := fun tq kq => by rw [hA0]; exact castTop (ef_rmCI m i_ n_) kq
  have G2 : Go p e below A0 (s₁.setTop (mkF m 2 #[.val (.int i_), .val (.int n_)] [(.int n_), (.int i_)])) := fun tq kq => G0 tq (by
    refine XS.iloadN X0.here hx rfl (hb hby d16_0) rfl ?_
    refine XS.iloadN X0.here hx rfl (hb hby d16_1) rfl ?_
    exact kq)
  obtain ⟨T3, X3, e3, st3⟩ := getS2 X0 hx hZ hown (host := "") (Or.inl (wd hw 78 rfl)) Via.refl e0 (hSF.ext hold.2) (g := (mkF m 2 #[.val (.int i_), .val (.int n_)] [(.int n_), (.int i_)])) rfl (hb hby d16_2)
  have G4 : Go p e below A0 (T3.setTop (mkF m 5 #[.val (.int i_), .val (.int n_)] [fo, (.int n_), (.int i_)])) := fun tq kq => G2 tq (st3 _ kq)
  obtain ⟨_, _, ⟨T5, L5, k5, n5⟩, -, X5, ⟨Lc5, hQ5, l5, y5, z5⟩, st5⟩ := Jvm.LawKit.callS X3 hx (y := (⟨"jdk/internal/util/Preconditions", "checkIndex", "(IILjava/util/function/BiFunction;)I"⟩ : MethodName)) hown (mvT hZ (wd hw 80 rfl)) (mvT hZ (wd hw 81 rfl)) (mvT hZ (wd hw 79 rfl)) (mvT hZ (wd hw 82 rfl)) (by decide) (backOf (W := 0) (rmPC l Z a0 hw [] i_ n_ fo h0 n0 Z0 hfo hi) hZ (wd hw 82 rfl) (wd hw 79 rfl) (by decide) (by decide)) (g := (mkF m 5 #[.val (.int i_), .val (.int n_)] [fo, (.int n_), (.int i_)])) rfl (by rw [hml]; rfl) (argsL := [(.int i_), (.int n_), fo]) (rest := []) (lenOf pd_0 rfl) rfl (by show 2 * 0 + _ ≤ _; exact Nat.le_of_eq rfl) (hb hby d16_5) (fun _ _ => ⟨rfl, e3, (by decide : 0 + 0 ≤ _), (by decide : 0 + 0 ≤ _)⟩)
  dsimp only [Pt.U, Pt.locs, Pt.cells, Pt.slots] at X5 l5 y5 z5 st5 hQ5
  obtain rfl : k5 = 0 := y5
  obtain rfl : n5 = 0 := z5
  obtain ⟨rfl, N5q, e5⟩ := hQ5
  have N5 : Fr n0 L5 := by rw [l5]; exact Fr.app N0 N5q
  have G6 : Go p e below A0 (T5.setTop (mkF m 8 #[.val (.int i_), .val (.int n_)] [(.int i_)])) := fun tq kq => G4 tq (st5 _ kq)
  have G7 : Go p e below A0 (T5.setTop (mkF m 9 #[.val (.int i_), .val (.int n_)] [])) := fun tq kq => G6 tq (by
    refine XS.pop X5.here hx rfl (hb hby d16_8) rfl rfl ?_
    exact kq)
  obtain ⟨fs, hr, hrun, hended, hW, hsame⟩ := X5.leave (v := none) (fun _ => rfl)
  refine ⟨_, _, (by rw [← hA0]; exact G7 _ (X5.returnOut hx Bd.returns (hb hby d16_9) hr)), hrun, hended, _, _, rfl, ?_, ⟨_, rfl⟩, hW, hsame.mono (by decide) (by decide)⟩
  exact ⟨rfl, N5, e5⟩
set_option maxRecDepth 65536 in
set_option maxHeartbeats 40000000 in
theorem rmUL (l : Launch) (Z : State) (a0 : Array Value) (hw : ∀ d ∈ tables_1, d.before a0 Z = true) (ws : List Jvm.Cond) (b : Addr) (kb : ClassId) (cf : Nat → Int32) (i_ n_ z2 : Int32) (cs : Int32) (fo : Value) (h0 : Heap) (n0 : Nat) (Z0 : n0 ≤ h0.size) (Ab : Af Z h0 b kb .byte z2 (fun j => .int (own_ub cf j))) (hz2 : own_dbl n_ z2) (hi : ¬ i_ < (0 : Int32) ∧ i_ < n_) (hR : own_R (cf (i_).toNatClampNeg)) (hCS : Sta Z Z.heap "java/lang/String" "COMPACT_STRINGS" "Z" (.int cs)) (hcs : ¬ cs = (0 : Int32)) (hSF : Sta Z Z.heap "jdk/internal/util/Preconditions" "SIOOBE_FORMATTER" "Ljava/util/function/BiFunction;" fo) (hfo : fo.isRef = true) (hAD : Sta Z Z.heap "java/lang/StringUTF16" "$assertionsDisabled" "Z" (.int 1)) (hHI : Sta Z Z.heap "java/lang/StringUTF16" "HI_BYTE_SHIFT" "I" (.int 0)) (hLO : Sta Z Z.heap "java/lang/StringUTF16" "LO_BYTE_SHIFT" "I" (.int 8)) (hold : Old Z n0 h0) :
    MetFree l (⟨"java/lang/StringUTF16", "length", "([B)I"⟩ : MethodName) (head1 (Jvm.Cond.code (⟨"java/lang/StringUTF16", "length", "([B)I"⟩ : MethodName) jdk_52_method_6_code 1 (some .int) :: ws) (Rm 0 0 0 0)) (fun aa UU => aa = #[(.ref b)] ∧ Z.Warmed39 UU.vm ∧ UU.heap = h0) (fun _ _ _ _ _ => True) (fun _ UU oo U' => ∃ v L, oo = .returned v ∧ Qr (.int n_) h0 n0 v U'.heap L ∧ FrameEnd UU oo U' L (Rm 0 0 0 0).cells (Rm 0 0 0 0).slots) := by
  refine MetFree.of_bodySF (plainFor_of_name pn_2) hisR ?_
  intro p e s m args below meth c s₁ Bd hml0 hP hK
  obtain ⟨rfl, hZ, hh⟩ := hP
  have hx := Bd.exec
  have hby := Bd.bytes
  have hml : c.maxLocals = 1 := hml0
  have hown : s.vm.findClass "java/lang/StringUTF16" = some m.cls := findClass_of_methodNamed Bd.named
  have hnm := (name_of_methodNamed Bd.named Bd.method).1
  have X0 : Stand p l e (Rm 0 0 0 0) s m #[(.ref b)] below meth c s₁ [] 0 0 := Stand.of_body Bd
  have e0 : s₁.heap = h0 := by rw [← hh, Bd.state]; rfl
  have N0 := Fr.nil n0
  obtain ⟨A0, hA0⟩ : ∃ A, A = s₁.setTop (entryFrame m #[(.ref b)] 1) := ⟨_, rfl⟩
  have G0 : Go p e below A0 (s₁.setTop (mkF m 0 #[.val (.ref b)] [])) := fun tq kq => by rw [hA0]; exact castTop (ef_rmUL m b) kq
  have G8 : Go p e below A0 (s₁.setTop (mkF m 1 #[.val (.ref b)] [(.ref b)])) := fun tq kq => G0 tq (by
    refine XS.aloadN X0.here hx rfl (hb hby d31_0) rfl rfl ?_
    exact kq)
  obtain ⟨cl9, Ar9, q9, S9, M9, H9⟩ := id Ab
  have G10 : Go p e below A0 (s₁.setTop (mkF m 4 #[.val (.ref b)] [(.int n_)])) := fun tq kq => G8 tq (by
    refine X0.arraylength hx (by rw [e0]; exact Ar9.1) (State.isArrayOf_alike hZ.alike Ar9.2.1) (g := (mkF m 1 #[.val (.ref b)] [(.ref b)])) rfl rfl (hb hby d31_1) _ ?_
    rw [len_of S9 M9]
    show Steps p.tables e below (s₁.setTop (mkF m 2 #[.val (.ref b)] [(.int z2)])) _
    refine XS.iconst X0.here hx rfl (hb hby d31_2) ?_
    refine XS.ishr X0.here hx rfl (hb hby d31_3) rfl ?_
    show Steps p.tables e below (s₁.setTop (mkF m 4 #[.val (.ref b)] [(.int (z2 >>> ((1 : Int32) &&& 31)))])) _
    rw [show (z2 >>> ((1 : Int32) &&& 31)) = n_ from (own_half hz2)]
    show Steps p.tables e below (s₁.setTop (mkF m 4 #[.val (.ref b)] [(.int n_)])) _
    exact kq)
  obtain ⟨fs, hr, hrun, hended, hW, hsame⟩ := X0.leave (v := some (.int n_)) (fun h => by rw [Bd.returns] at h; cases h)
  refine ⟨_, _, (by rw [← hA0]; exact G10 _ (retOut X0 hx (t := .int) Bd.returns rfl (Or.inl ⟨rfl, Or.inl rfl, _, rfl⟩) (hb hby d31_4) hr)), hrun, hended, _, _, rfl, ?_, ⟨_, rfl⟩, hW, hsame.mono (by decide) (by decide)⟩
  exact ⟨rfl, N0, e0⟩
set_option maxRecDepth 65536 in
set_option maxHeartbeats 40000000 in
theorem rmGC (l : Launch) (Z : State) (a0 : Array Value) (hw : ∀ d ∈ tables_1, d.before a0 Z = true) (ws : List Jvm.Cond) (b : Addr) (kb : ClassId) (cf : Nat → Int32) (i_ n_ z2 : Int32) (cs : Int32) (fo : Value) (h0 : Heap) (n0 : Nat) (Z0 : n0 ≤ h0.size) (Ab : Af Z h0 b kb .byte z2 (fun j => .int (own_ub cf j))) (hz2 : own_dbl n_ z2) (hi : ¬ i_ < (0 : Int32) ∧ i_ < n_) (hR : own_R (cf (i_).toNatClampNeg)) (hCS : Sta Z Z.heap "java/lang/String" "COMPACT_STRINGS" "Z" (.int cs)) (hcs : ¬ cs = (0 : Int32)) (hSF : Sta Z Z.heap "jdk/internal/util/Preconditions" "SIOOBE_FORMATTER" "Ljava/util/function/BiFunction;" fo) (hfo : fo.isRef = true) (hAD : Sta Z Z.heap "java/lang/StringUTF16" "$assertionsDisabled" "Z" (.int 1)) (hHI : Sta Z Z.heap "java/lang/StringUTF16" "HI_BYTE_SHIFT" "I" (.int 0)) (hLO : Sta Z Z.heap "java/lang/StringUTF16" "LO_BYTE_SHIFT" "I" (.int 8)) (hold : Old Z n0 h0) :
    MetFree l (⟨"java/lang/StringUTF16", "getChar", "([BI)C"⟩ : MethodName) (head1 (Jvm.Cond.code (⟨"java/lang/StringUTF16", "getChar", "([BI)C"⟩ : MethodName) jdk_52_method_5_code 2 (some .char) :: ws) (Rm 0 0 0 0)) (fun aa UU => aa = #[(.ref b), (.int i_)] ∧ Z.Warmed39 UU.vm ∧ UU.heap = h0) (fun _ _ _ _ _ => True) (fun _ UU oo U' => ∃ v L, oo = .returned v ∧ Qr (.int (cf (i_).toNatClampNeg)) h0 n0 v U'.heap L ∧ FrameEnd UU oo U' L (Rm 0 0 0 0).cells (Rm 0 0 0 0).slots) := by
  refine MetFree.of_bodySF (plainFor_of_name pn_2) hisR ?_
  intro p e s m args below meth c s₁ Bd hml0 hP hK
  obtain ⟨rfl, hZ, hh⟩ := hP
  have hx := Bd.exec
  have hby := Bd.bytes
  have hml : c.maxLocals = 2 := hml0
  have hown : s.vm.findClass "java/lang/StringUTF16" = some m.cls := findClass_of_methodNamed Bd.named
  have hnm := (name_of_methodNamed Bd.named Bd.method).1
  have X0 : Stand p l e (Rm 0 0 0 0) s m #[(.ref b), (.int i_)] below meth c s₁ [] 0 0 := Stand.of_body Bd
  have e0 : s₁.heap = h0 := by rw [← hh, Bd.state]; rfl
  have N0 := Fr.nil n0
  obtain ⟨A0, hA0⟩ : ∃ A, A = s₁.setTop (entryFrame m #[(.ref b), (.int i_)] 2) := ⟨_, rfl⟩
  have G0 : Go p e below A0 (s₁.setTop (mkF m 0 #[.val (.ref b), .val (.int i_)] [])) := fun tq kq => by rw [hA0]; exact castTop (ef_rmGC m b i_) kq
  obtain ⟨T11, X11, e11, st11⟩ := getS2 X0 hx hZ hown (host := "") (Or.inl (wd hw 115 rfl)) Via.refl e0 (hAD.ext hold.2) (g := (mkF m 0 #[.val (.ref b), .val (.int i_)] [])) rfl (hb hby d28_0)
  have G12 : Go p e below A0 (T11.setTop (mkF m 3 #[.val (.ref b), .val (.int i_)] [(.int 1)])) := fun tq kq => G0 tq (st11 _ kq)
  have G13 : Go p e below A0 (T11.setTop (mkF m 37 #[.val (.ref b), .val (.int ((i_ <<< ((1 : Int32) &&& 31)) + (1 : Int32)))] [(.int (i_ <<< ((1 : Int32) &&& 31))), (.ref b)])) := fun tq kq => G12 tq (by
    refine XS.ifYes X11.here hx rfl (pc0 := 3) (pc' := 28) rfl (hb hby d28_3) rfl (by decide) (by decide) (by decide) ?_
    refine XS.iloadN X11.here hx rfl (hb hby d28_28) rfl ?_
    refine XS.iconst X11.here hx rfl (hb hby d28_29) ?_
    refine XS.ishl X11.here hx rfl (hb hby d28_30) rfl ?_
    refine XS.istoreN X11.here hx rfl (hb hby d28_31) rfl (l' := #[.val (.ref b), .val (.int (i_ <<< ((1 : Int32) &&& 31)))]) rfl ?_
    refine XS.aloadN X11.here hx rfl (hb hby d28_32) rfl rfl ?_
    refine XS.iloadN X11.here hx rfl (hb hby d28_33) rfl ?_
    refine XS.iinc X11.here hx rfl (hb hby d28_34) rfl (l' := #[.val (.ref b), .val (.int ((i_ <<< ((1 : Int32) &&& 31)) + (1 : Int32)))]) rfl ?_
    exact kq)
  obtain ⟨cl14, Ar14, q14, S14, M14, H14⟩ := id Ab
  have hi15 : ¬ ((i_ <<< ((1 : Int32) &&& 31)) < 0 ∨ cl14.slots.size ≤ ((i_ <<< ((1 : Int32) &&& 31))).toNatClampNeg) := (inb_of S14 (own_j0 hz2 hi))
  have G16 : Go p e below A0 (T11.setTop (mkF m 42 #[.val (.ref b), .val (.int ((i_ <<< ((1 : Int32) &&& 31)) + (1 : Int32)))] [(.int ((own_lo (cf (i_).toNatClampNeg)) &&& (255 : Int32)))])) := fun tq kq => G13 tq (by
    refine X11.baloadBytes hx (j := (i_ <<< ((1 : Int32) &&& 31))) (v := (.int (own_lo (cf (i_).toNatClampNeg)))) (by rw [e11]; exact Ar14.1) (State.isArrayOf_alike hZ.alike Ar14.2.1) Ar14.2.2 hi15 ((H14 _ (S14 ▸ Nat.lt_of_not_le fun y => hi15 (Or.inr y))).trans (congrArg some (congrArg Value.int (own_ub0 cf hz2 hi)))) (g := (mkF m 37 #[.val (.ref b), .val (.int ((i_ <<< ((1 : Int32) &&& 31)) + (1 : Int32)))] [(.int (i_ <<< ((1 : Int32) &&& 31))), (.ref b)])) rfl rfl (hb hby d28_37) _ ?_
    show Steps p.tables e below (T11.setTop (mkF m 38 #[.val (.ref b), .val (.int ((i_ <<< ((1 : Int32) &&& 31)) + (1 : Int32)))] [(.int (own_lo (cf (i_).toNatClampNeg)))])) _
    refine XS.sipush X11.here hx rfl (hb hby d28_38) ?_
    refine XS.iand X11.here hx rfl (hb hby d28_41) rfl ?_
    exact kq)
  obtain ⟨T17, X17, e17, st17⟩ := getS2 X11 hx hZ hown (host := "") (Or.inl (wd hw 116 rfl)) Via.refl e11 (hHI.ext hold.2) (g := (mkF m 42 #[.val (.ref b), .val (.int ((i_ <<< ((1 : Int32) &&& 31)) + (1 : Int32)))] [(.int ((own_lo (cf (i_).toNatClampNeg)) &&& (255 : Int32)))])) rfl (hb hby d28_42)
  have G18 : Go p e below A0 (T17.setTop (mkF m 45 #[.val (.ref b), .val (.int ((i_ <<< ((1 : Int32) &&& 31)) + (1 : Int32)))] [(.int 0), (.int ((own_lo (cf (i_).toNatClampNeg)) &&& (255 : Int32)))])) := fun tq kq => G16 tq (st17 _ kq)
  have G19 : Go p e below A0 (T17.setTop (mkF m 48 #[.val (.ref b), .val (.int ((i_ <<< ((1 : Int32) &&& 31)) + (1 : Int32)))] [(.int ((i_ <<< ((1 : Int32) &&& 31)) + (1 : Int32))), (.ref b), (.int (((own_lo (cf (i_).toNatClampNeg)) &&& (255 : Int32)) <<< ((0 : Int32) &&& 31)))])) := fun tq kq => G18 tq (by
    refine XS.ishl X17.here hx rfl (hb hby d28_45) rfl ?_
    refine XS.aloadN X17.here hx rfl (hb hby d28_46) rfl rfl ?_
    refine XS.iloadN X17.here hx rfl (hb hby d28_47) rfl ?_
    exact kq)
  obtain ⟨cl20, Ar20, q20, S20, M20, H20⟩ := id Ab
  have hi21 : ¬ (((i_ <<< ((1 : Int32) &&& 31)) + (1 : Int32)) < 0 ∨ cl20.slots.size ≤ (((i_ <<< ((1 : Int32) &&& 31)) + (1 : Int32))).toNatClampNeg) := (inb_of S20 (own_j1 hz2 hi))
  have G22 : Go p e below A0 (T17.setTop (mkF m 53 #[.val (.ref b), .val (.int ((i_ <<< ((1 : Int32) &&& 31)) + (1 : Int32)))] [(.int ((own_hi (cf (i_).toNatClampNeg)) &&& (255 : Int32))), (.int (((own_lo (cf (i_).toNatClampNeg)) &&& (255 : Int32)) <<< ((0 : Int32) &&& 31)))])) := fun tq kq => G19 tq (by
    refine X17.baloadBytes hx (j := ((i_ <<< ((1 : Int32) &&& 31)) + (1 : Int32))) (v := (.int (own_hi (cf (i_).toNatClampNeg)))) (by rw [e17]; exact Ar20.1) (State.isArrayOf_alike hZ.alike Ar20.2.1) Ar20.2.2 hi21 ((H20 _ (S20 ▸ Nat.lt_of_not_le fun y => hi21 (Or.inr y))).trans (congrArg some (congrArg Value.int (own_ub1 cf hz2 hi)))) (g := (mkF m 48 #[.val (.ref b), .val (.int ((i_ <<< ((1 : Int32) &&& 31)) + (1 : Int32)))] [(.int ((i_ <<< ((1 : Int32) &&& 31)) + (1 : Int32))), (.ref b), (.int (((own_lo (cf (i_).toNatClampNeg)) &&& (255 : Int32)) <<< ((0 : Int32) &&& 31)))])) rfl rfl (hb hby d28_48) _ ?_
    show Steps p.tables e below (T17.setTop (mkF m 49 #[.val (.ref b), .val (.int ((i_ <<< ((1 : Int32) &&& 31)) + (1 : Int32)))] [(.int (own_hi (cf (i_).toNatClampNeg))), (.int (((own_lo (cf (i_).toNatClampNeg)) &&& (255 : Int32)) <<< ((0 : Int32) &&& 31)))])) _
    refine XS.sipush X17.here hx rfl (hb hby d28_49) ?_
    refine XS.iand X17.here hx rfl (hb hby d28_52) rfl ?_
    exact kq)
  obtain ⟨T23, X23, e23, st23⟩ := getS2 X17 hx hZ hown (host := "") (Or.inl (wd hw 117 rfl)) Via.refl e17 (hLO.ext hold.2) (g := (mkF m 53 #[.val (.ref b), .val (.int ((i_ <<< ((1 : Int32) &&& 31)) + (1 : Int32)))] [(.int ((own_hi (cf (i_).toNatClampNeg)) &&& (255 : Int32))), (.int (((own_lo (cf (i_).toNatClampNeg)) &&& (255 : Int32)) <<< ((0 : Int32) &&& 31)))])) rfl (hb hby d28_53)
  have G24 : Go p e below A0 (T23.setTop (mkF m 56 #[.val (.ref b), .val (.int ((i_ <<< ((1 : Int32) &&& 31)) + (1 : Int32)))] [(.int 8), (.int ((own_hi (cf (i_).toNatClampNeg)) &&& (255 : Int32))), (.int (((own_lo (cf (i_).toNatClampNeg)) &&& (255 : Int32)) <<< ((0 : Int32) &&& 31)))])) := fun tq kq => G22 tq (st23 _ kq)
  have G25 : Go p e below A0 (T23.setTop (mkF m 59 #[.val (.ref b), .val (.int ((i_ <<< ((1 : Int32) &&& 31)) + (1 : Int32)))] [(.int (cf (i_).toNatClampNeg))])) := fun tq kq => G24 tq (by
    refine XS.ishl X23.here hx rfl (hb hby d28_56) rfl ?_
    refine XS.ior X23.here hx rfl (hb hby d28_57) rfl ?_
    refine XS.i2c X23.here hx rfl (hb hby d28_58) rfl ?_
    show Steps p.tables e below (T23.setTop (mkF m 59 #[.val (.ref b), .val (.int ((i_ <<< ((1 : Int32) &&& 31)) + (1 : Int32)))] [(.int ((((own_lo (cf (i_).toNatClampNeg)) &&& (255 : Int32)) <<< ((0 : Int32) &&& 31)) ||| (((own_hi (cf (i_).toNatClampNeg)) &&& (255 : Int32)) <<< ((8 : Int32) &&& 31))).toUInt32.toUInt16.toUInt32.toInt32)])) _
    rw [show ((((own_lo (cf (i_).toNatClampNeg)) &&& (255 : Int32)) <<< ((0 : Int32) &&& 31)) ||| (((own_hi (cf (i_).toNatClampNeg)) &&& (255 : Int32)) <<< ((8 : Int32) &&& 31))).toUInt32.toUInt16.toUInt32.toInt32 = (cf (i_).toNatClampNeg) from (own_chU hR)]
    show Steps p.tables e below (T23.setTop (mkF m 59 #[.val (.ref b), .val (.int ((i_ <<< ((1 : Int32) &&& 31)) + (1 : Int32)))] [(.int (cf (i_).toNatClampNeg))])) _
    exact kq)
  obtain ⟨fs, hr, hrun, hended, hW, hsame⟩ := X23.leave (v := some (.int (nar .char (cf (i_).toNatClampNeg)))) (fun h => by rw [Bd.returns] at h; cases h)
  refine ⟨_, _, (by rw [← hA0]; exact G25 _ (retN X23 hx (t := .char) Bd.returns (by simp) (hb hby d28_59) hr)), hrun, hended, _, _, rfl, ?_, ⟨_, rfl⟩, hW, hsame.mono (by decide) (by decide)⟩
  exact ⟨(by rw [own_nC hR]), N0, e23⟩
set_option maxRecDepth 65536 in
set_option maxHeartbeats 40000000 in
theorem rmUI (l : Launch) (Z : State) (a0 : Array Value) (hw : ∀ d ∈ tables_1, d.before a0 Z = true) (ws : List Jvm.Cond) (b : Addr) (kb : ClassId) (cf : Nat → Int32) (i_ n_ z2 : Int32) (cs : Int32) (fo : Value) (h0 : Heap) (n0 : Nat) (Z0 : n0 ≤ h0.size) (Ab : Af Z h0 b kb .byte z2 (fun j => .int (own_ub cf j))) (hz2 : own_dbl n_ z2) (hi : ¬ i_ < (0 : Int32) ∧ i_ < n_) (hR : own_R (cf (i_).toNatClampNeg)) (hCS : Sta Z Z.heap "java/lang/String" "COMPACT_STRINGS" "Z" (.int cs)) (hcs : ¬ cs = (0 : Int32)) (hSF : Sta Z Z.heap "jdk/internal/util/Preconditions" "SIOOBE_FORMATTER" "Ljava/util/function/BiFunction;" fo) (hfo : fo.isRef = true) (hAD : Sta Z Z.heap "java/lang/StringUTF16" "$assertionsDisabled" "Z" (.int 1)) (hHI : Sta Z Z.heap "java/lang/StringUTF16" "HI_BYTE_SHIFT" "I" (.int 0)) (hLO : Sta Z Z.heap "java/lang/StringUTF16" "LO_BYTE_SHIFT" "I" (.int 8)) (hold : Old Z n0 h0) :
    MetFree l (⟨"java/lang/StringUTF16", "checkIndex", "(I[B)V"⟩ : MethodName) (head1 (Jvm.Cond.code (⟨"java/lang/StringUTF16", "checkIndex", "(I[B)V"⟩ : MethodName) jdk_52_method_91_code 2 none :: ws) (Rm 2 0 0 27)) (fun aa UU => aa = #[(.int i_), (.ref b)] ∧ Z.Warmed39 UU.vm ∧ UU.heap = h0) (fun _ _ _ _ _ => True) (fun _ UU oo U' => ∃ v L, oo = .returned v ∧ Qn h0 n0 v U'.heap L ∧ FrameEnd UU oo U' L (Rm 2 0 0 27).cells (Rm 2 0 0 27).slots) := by
  refine MetFree.of_bodySF (plainFor_of_name pn_2) hisR ?_
  intro p e s m args below meth c s₁ Bd hml0 hP hK
  obtain ⟨rfl, hZ, hh⟩ := hP
  have hx := Bd.exec
  have hby := Bd.bytes
  have hml : c.maxLocals = 2 := hml0
  have hown : s.vm.findClass "java/lang/StringUTF16" = some m.cls := findClass_of_methodNamed Bd.named
  have hnm := (name_of_methodNamed Bd.named Bd.method).1
  have X0 : Stand p l e (Rm 2 0 0 27) s m #[(.int i_), (.ref b)] below meth c s₁ [] 0 0 := Stand.of_body Bd
  have e0 : s₁.heap = h0 := by rw [← hh, Bd.state]; rfl
  have N0 := Fr.nil n0
  obtain ⟨A0, hA0⟩ : ∃ A, A = s₁.setTop (entryFrame m #[(.int i_), (.ref b)] 2) := ⟨_, rfl⟩
  have G0 : Go p e below A0 (s₁.setTop (mkF m 0 #[.val (.int i_), .val (.ref b)] [])) := fun tq kq => by rw [hA0]; exact castTop (ef_rmUI m i_ b) kq
  have G26 : Go p e below A0 (s₁.setTop (mkF m 2 #[.val (.int i_), .val (.ref b)] [(.ref b), (.int i_)])) := fun tq kq => G0 tq (by
    refine XS.iloadN X0.here hx rfl (hb hby d30_0) rfl ?_
    refine XS.aloadN X0.here hx rfl (hb hby d30_1) rfl rfl ?_
    exact kq)
  obtain ⟨_, _, ⟨T27, L27, k27, n27⟩, -, X27, ⟨Lc27, hQ27, l27, y27, z27⟩, st27⟩ := Jvm.LawKit.callS X0 hx (y := (⟨"java/lang/StringUTF16", "length", "([B)I"⟩ : MethodName)) hown (mvT hZ (wd hw 127 rfl)) (mvT hZ (wd hw 128 rfl)) (mvT hZ (wd hw 40 rfl)) (mvT hZ (wd hw 129 rfl)) (by decide) (backOf (W := 1) (rmUL l Z a0 hw [] b kb cf i_ n_ z2 cs fo h0 n0 Z0 Ab hz2 hi hR  hCS hcs hSF hfo hAD hHI hLO hold) hZ (wd hw 129 rfl) (wd hw 40 rfl) (by decide) (by decide)) (g := (mkF m 2 #[.val (.int i_), .val (.ref b)] [(.ref b), (.int i_)])) rfl (by rw [hml]; rfl) (argsL := [(.ref b)]) (rest := [(.int i_)]) (lenOf pd_1 rfl) rfl (by show 2 * 0 + _ ≤ _; exact Nat.le_of_eq rfl) (hb hby d30_2) (fun _ _ => ⟨rfl, e0, (by decide : 0 + 0 ≤ _), (by decide : 0 + 0 ≤ _)⟩)
  dsimp only [Pt.U, Pt.locs, Pt.cells, Pt.slots] at X27 l27 y27 z27 st27 hQ27
  obtain rfl : k27 = 0 := y27
  obtain rfl : n27 = 0 := z27
  obtain ⟨rfl, N27q, e27⟩ := hQ27
  have N27 : Fr n0 L27 := by rw [l27]; exact Fr.app N0 N27q
  have G28 : Go p e below A0 (T27.setTop (mkF m 5 #[.val (.int i_), .val (.ref b)] [(.int n_), (.int i_)])) := fun tq kq => G26 tq (st27 _ kq)
  obtain ⟨_, _, ⟨T29, L29, k29, n29⟩, -, X29, ⟨Lc29, hQ29, l29, y29, z29⟩, st29⟩ := Jvm.LawKit.callS X27 hx (y := (⟨"java/lang/String", "checkIndex", "(II)V"⟩ : MethodName)) hown (mvT hZ (wd hw 130 rfl)) (mvT hZ (wd hw 76 rfl)) (mvT hZ (wd hw 8 rfl)) (mvT hZ (wd hw 77 rfl)) (by decide) (backOf (W := 0) (rmCI l Z a0 hw [] i_ n_ cs fo h0 n0 Z0 hCS hcs hSF hfo hAD hHI hLO hold hi) hZ (wd hw 77 rfl) (wd hw 8 rfl) (by decide) (by decide)) (g := (mkF m 5 #[.val (.int i_), .val (.ref b)] [(.int n_), (.int i_)])) rfl (by rw [hml]; rfl) (argsL := [(.int i_), (.int n_)]) (rest := []) (lenOf pd_2 rfl) rfl (by show 2 * 0 + _ ≤ _; exact Nat.le_of_eq rfl) (hb hby d30_5) (fun _ _ => ⟨rfl, e27, (by decide : 0 + 0 ≤ _), (by decide : 0 + 0 ≤ _)⟩)
  dsimp only [Pt.U, Pt.locs, Pt.cells, Pt.slots] at X29 l29 y29 z29 st29 hQ29
  obtain rfl : k29 = 0 := y29
  obtain rfl : n29 = 0 := z29
  obtain ⟨rfl, N29q, e29⟩ := hQ29
  have N29 : Fr n0 L29 := by rw [l29]; exact Fr.app N27 N29q
  have G30 : Go p e below A0 (T29.setTop (mkF m 8 #[.val (.int i_), .val (.ref b)] [])) := fun tq kq => G28 tq (st29 _ kq)
  obtain ⟨fs, hr, hrun, hended, hW, hsame⟩ := X29.leave (v := none) (fun _ => rfl)
  refine ⟨_, _, (by rw [← hA0]; exact G30 _ (X29.returnOut hx Bd.returns (hb hby d30_8) hr)), hrun, hended, _, _, rfl, ?_, ⟨_, rfl⟩, hW, hsame.mono (by decide) (by decide)⟩
  exact ⟨rfl, N29, e29⟩
set_option maxRecDepth 65536 in
set_option maxHeartbeats 40000000 in
theorem rmUC (l : Launch) (Z : State) (a0 : Array Value) (hw : ∀ d ∈ tables_1, d.before a0 Z = true) (ws : List Jvm.Cond) (b : Addr) (kb : ClassId) (cf : Nat → Int32) (i_ n_ z2 : Int32) (cs : Int32) (fo : Value) (h0 : Heap) (n0 : Nat) (Z0 : n0 ≤ h0.size) (Ab : Af Z h0 b kb .byte z2 (fun j => .int (own_ub cf j))) (hz2 : own_dbl n_ z2) (hi : ¬ i_ < (0 : Int32) ∧ i_ < n_) (hR : own_R (cf (i_).toNatClampNeg)) (hCS : Sta Z Z.heap "java/lang/String" "COMPACT_STRINGS" "Z" (.int cs)) (hcs : ¬ cs = (0 : Int32)) (hSF : Sta Z Z.heap "jdk/internal/util/Preconditions" "SIOOBE_FORMATTER" "Ljava/util/function/BiFunction;" fo) (hfo : fo.isRef = true) (hAD : Sta Z Z.heap "java/lang/StringUTF16" "$assertionsDisabled" "Z" (.int 1)) (hHI : Sta Z Z.heap "java/lang/StringUTF16" "HI_BYTE_SHIFT" "I" (.int 0)) (hLO : Sta Z Z.heap "java/lang/StringUTF16" "LO_BYTE_SHIFT" "I" (.int 8)) (hold : Old Z n0 h0) :
    MetFree l (⟨"java/lang/StringUTF16", "charAt", "([BI)C"⟩ : MethodName) (head1 (Jvm.Cond.code (⟨"java/lang/StringUTF16", "charAt", "([BI)C"⟩ : MethodName) jdk_52_method_83_code 2 (some .char) :: ws) (Rm 3 0 0 40)) (fun aa UU => aa = #[(.ref b), (.int i_)] ∧ Z.Warmed39 UU.vm ∧ UU.heap = h0) (fun _ _ _ _ _ => True) (fun _ UU oo U' => ∃ v L, oo = .returned v ∧ Qr (.int (cf (i_).toNatClampNeg)) h0 n0 v U'.heap L ∧ FrameEnd UU oo U' L (Rm 3 0 0 40).cells (Rm 3 0 0 40).slots) := by
  refine MetFree.of_bodySF (plainFor_of_name pn_2) hisR ?_
  intro p e s m args below meth c s₁ Bd hml0 hP hK
  obtain ⟨rfl, hZ, hh⟩ := hP
  have hx := Bd.exec
  have hby := Bd.bytes
  have hml : c.maxLocals = 2 := hml0
  have hown : s.vm.findClass "java/lang/StringUTF16" = some m.cls := findClass_of_methodNamed Bd.named
  have hnm := (name_of_methodNamed Bd.named Bd.method).1
  have X0 : Stand p l e (Rm 3 0 0 40) s m #[(.ref b), (.int i_)] below meth c s₁ [] 0 0 := Stand.of_body Bd
  have e0 : s₁.heap = h0 := by rw [← hh, Bd.state]; rfl
  have N0 := Fr.nil n0
  obtain ⟨A0, hA0⟩ : ∃ A, A = s₁.setTop (entryFrame m #[(.ref b), (.int i_)] 2) := ⟨_, rfl⟩
  have G0 : Go p e below A0 (s₁.setTop (mkF m 0 #[.val (.ref b), .val (.int i_)] [])) := fun tq kq => by rw [hA0]; exact castTop (ef_rmUC m b i_) kq
  have G31 : Go p e below A0 (s₁.setTop (mkF m 2 #[.val (.ref b), .val (.int i_)] [(.ref b), (.int i_)])) := fun tq kq => G0 tq (by
    refine XS.iloadN X0.here hx rfl (hb hby d29_0) rfl ?_
    refine XS.aloadN X0.here hx rfl (hb hby d29_1) rfl rfl ?_
    exact kq)
  obtain ⟨_, _, ⟨T32, L32, k32, n32⟩, -, X32, ⟨Lc32, hQ32, l32, y32, z32⟩, st32⟩ := Jvm.LawKit.callS X0 hx (y := (⟨"java/lang/StringUTF16", "checkIndex", "(I[B)V"⟩ : MethodName)) hown (mvT hZ (wd hw 124 rfl)) (mvT hZ (wd hw 125 rfl)) (mvT hZ (wd hw 40 rfl)) (mvT hZ (wd hw 126 rfl)) (by decide) (backOf (W := 0) (rmUI l Z a0 hw [] b kb cf i_ n_ z2 cs fo h0 n0 Z0 Ab hz2 hi hR  hCS hcs hSF hfo hAD hHI hLO hold) hZ (wd hw 126 rfl) (wd hw 40 rfl) (by decide) (by decide)) (g := (mkF m 2 #[.val (.ref b), .val (.int i_)] [(.ref b), (.int i_)])) rfl (by rw [hml]; rfl) (argsL := [(.int i_), (.ref b)]) (rest := []) (lenOf pd_3 rfl) rfl (by show 2 * 0 + _ ≤ _; exact Nat.le_of_eq rfl) (hb hby d29_2) (fun _ _ => ⟨rfl, e0, (by decide : 0 + 0 ≤ _), (by decide : 0 + 0 ≤ _)⟩)
  dsimp only [Pt.U, Pt.locs, Pt.cells, Pt.slots] at X32 l32 y32 z32 st32 hQ32
  obtain rfl : k32 = 0 := y32
  obtain rfl : n32 = 0 := z32
  obtain ⟨rfl, N32q, e32⟩ := hQ32
  have N32 : Fr n0 L32 := by rw [l32]; exact Fr.app N0 N32q
  have G33 : Go p e below A0 (T32.setTop (mkF m 5 #[.val (.ref b), .val (.int i_)] [])) := fun tq kq => G31 tq (st32 _ kq)
  have G34 : Go p e below A0 (T32.setTop (mkF m 7 #[.val (.ref b), .val (.int i_)] [(.int i_), (.ref b)])) := fun tq kq => G33 tq (by
    refine XS.aloadN X32.here hx rfl (hb hby d29_5) rfl rfl ?_
    refine XS.iloadN X32.here hx rfl (hb hby d29_6) rfl ?_
    exact kq)
  obtain ⟨_, _, ⟨T35, L35, k35, n35⟩, -, X35, ⟨Lc35, hQ35, l35, y35, z35⟩, st35⟩ := Jvm.LawKit.callS X32 hx (y := (⟨"java/lang/StringUTF16", "getChar", "([BI)C"⟩ : MethodName)) hown (mvT hZ (wd hw 118 rfl)) (mvT hZ (wd hw 119 rfl)) (mvT hZ (wd hw 40 rfl)) (mvT hZ (wd hw 120 rfl)) (by decide) (backOf (W := 0) (rmGC l Z a0 hw [] b kb cf i_ n_ z2 cs fo h0 n0 Z0 Ab hz2 hi hR  hCS hcs hSF hfo hAD hHI hLO hold) hZ (wd hw 120 rfl) (wd hw 40 rfl) (by decide) (by decide)) (g := (mkF m 7 #[.val (.ref b), .val (.int i_)] [(.int i_), (.ref b)])) rfl (by rw [hml]; rfl) (argsL := [(.ref b), (.int i_)]) (rest := []) (lenOf pd_4 rfl) rfl (by show 2 * 0 + _ ≤ _; exact Nat.le_of_eq rfl) (hb hby d29_7) (fun _ _ => ⟨rfl, e32, (by decide : 0 + 0 ≤ _), (by decide : 0 + 0 ≤ _)⟩)
  dsimp only [Pt.U, Pt.locs, Pt.cells, Pt.slots] at X35 l35 y35 z35 st35 hQ35
  obtain rfl : k35 = 0 := y35
  obtain rfl : n35 = 0 := z35
  obtain ⟨rfl, N35q, e35⟩ := hQ35
  have N35 : Fr n0 L35 := by rw [l35]; exact Fr.app N32 N35q
  have G36 : Go p e below A0 (T35.setTop (mkF m 10 #[.val (.ref b), .val (.int i_)] [(.int (cf (i_).toNatClampNeg))])) := fun tq kq => G34 tq (st35 _ kq)
  obtain ⟨fs, hr, hrun, hended, hW, hsame⟩ := X35.leave (v := some (.int (nar .char (cf (i_).toNatClampNeg)))) (fun h => by rw [Bd.returns] at h; cases h)
  refine ⟨_, _, (by rw [← hA0]; exact G36 _ (retN X35 hx (t := .char) Bd.returns (by simp) (hb hby d29_10) hr)), hrun, hended, _, _, rfl, ?_, ⟨_, rfl⟩, hW, hsame.mono (by decide) (by decide)⟩
  exact ⟨(by rw [own_nC hR]), N35, e35⟩
set_option maxRecDepth 65536 in
set_option maxHeartbeats 40000000 in
theorem rmLC (l : Launch) (Z : State) (a0 : Array Value) (hw : ∀ d ∈ tables_1, d.before a0 Z = true) (ws : List Jvm.Cond) (b : Addr) (kb : ClassId) (cf : Nat → Int32) (i_ n_ z2 : Int32) (cs : Int32) (fo : Value) (h0 : Heap) (n0 : Nat) (Z0 : n0 ≤ h0.size) (Ab : Af Z h0 b kb .byte n_ (fun j => .int (own_by (cf j)))) (hz2 : own_dbl n_ z2) (hi : ¬ i_ < (0 : Int32) ∧ i_ < n_) (hR : own_R (cf (i_).toNatClampNeg)) (hL : ¬ (255 : Int32) < (cf (i_).toNatClampNeg)) (hCS : Sta Z Z.heap "java/lang/String" "COMPACT_STRINGS" "Z" (.int cs)) (hcs : ¬ cs = (0 : Int32)) (hSF : Sta Z Z.heap "jdk/internal/util/Preconditions" "SIOOBE_FORMATTER" "Ljava/util/function/BiFunction;" fo) (hfo : fo.isRef = true) (hAD : Sta Z Z.heap "java/lang/StringUTF16" "$assertionsDisabled" "Z" (.int 1)) (hHI : Sta Z Z.heap "java/lang/StringUTF16" "HI_BYTE_SHIFT" "I" (.int 0)) (hLO : Sta Z Z.heap "java/lang/StringUTF16" "LO_BYTE_SHIFT" "I" (.int 8)) (hold : Old Z n0 h0) :
    MetFree l (⟨"java/lang/StringLatin1", "charAt", "([BI)C"⟩ : MethodName) (head1 (Jvm.Cond.code (⟨"java/lang/StringLatin1", "charAt", "([BI)C"⟩ : MethodName) jdk_43_method_2_code 2 (some .char) :: ws) (Rm 2 0 0 27)) (fun aa UU => aa = #[(.ref b), (.int i_)] ∧ Z.Warmed39 UU.vm ∧ UU.heap = h0) (fun _ _ _ _ _ => True) (fun _ UU oo U' => ∃ v L, oo = .returned v ∧ Qr (.int (cf (i_).toNatClampNeg)) h0 n0 v U'.heap L ∧ FrameEnd UU oo U' L (Rm 2 0 0 27).cells (Rm 2 0 0 27).slots) := by
  refine MetFree.of_bodySF (plainFor_of_name pn_3) hisR ?_
  intro p e s m args below meth c s₁ Bd hml0 hP hK
  obtain ⟨rfl, hZ, hh⟩ := hP
  have hx := Bd.exec
  have hby := Bd.bytes
  have hml : c.maxLocals = 2 := hml0
  have hown : s.vm.findClass "java/lang/StringLatin1" = some m.cls := findClass_of_methodNamed Bd.named
  have hnm := (name_of_methodNamed Bd.named Bd.method).1
  have X0 : Stand p l e (Rm 2 0 0 27) s m #[(.ref b), (.int i_)] below meth c s₁ [] 0 0 := Stand.of_body Bd
  have e0 : s₁.heap = h0 := by rw [← hh, Bd.state]; rfl
  have N0 := Fr.nil n0
  obtain ⟨A0, hA0⟩ : ∃ A, A = s₁.setTop (entryFrame m #[(.ref b), (.int i_)] 2) := ⟨_, rfl⟩
  have G0 : Go p e below A0 (s₁.setTop (mkF m 0 #[.val (.ref b), .val (.int i_)] [])) := fun tq kq => by rw [hA0]; exact castTop (ef_rmLC m b i_) kq
  have G37 : Go p e below A0 (s₁.setTop (mkF m 2 #[.val (.ref b), .val (.int i_)] [(.ref b), (.int i_)])) := fun tq kq => G0 tq (by
    refine XS.iloadN X0.here hx rfl (hb hby d15_0) rfl ?_
    refine XS.aloadN X0.here hx rfl (hb hby d15_1) rfl rfl ?_
    exact kq)
  obtain ⟨cl38, Ar38, q38, S38, M38, H38⟩ := id Ab
  have G39 : Go p e below A0 (s₁.setTop (mkF m 3 #[.val (.ref b), .val (.int i_)] [(.int n_), (.int i_)])) := fun tq kq => G37 tq (by
    refine X0.arraylength hx (by rw [e0]; exact Ar38.1) (State.isArrayOf_alike hZ.alike Ar38.2.1) (g := (mkF m 2 #[.val (.ref b), .val (.int i_)] [(.ref b), (.int i_)])) rfl rfl (hb hby d15_2) _ ?_
    rw [len_of S38 M38]
    show Steps p.tables e below (s₁.setTop (mkF m 3 #[.val (.ref b), .val (.int i_)] [(.int n_), (.int i_)])) _
    exact kq)
  obtain ⟨_, _, ⟨T40, L40, k40, n40⟩, -, X40, ⟨Lc40, hQ40, l40, y40, z40⟩, st40⟩ := Jvm.LawKit.callS X0 hx (y := (⟨"java/lang/String", "checkIndex", "(II)V"⟩ : MethodName)) hown (mvT hZ (wd hw 75 rfl)) (mvT hZ (wd hw 76 rfl)) (mvT hZ (wd hw 8 rfl)) (mvT hZ (wd hw 77 rfl)) (by decide) (backOf (W := 0) (rmCI l Z a0 hw [] i_ n_ cs fo h0 n0 Z0 hCS hcs hSF hfo hAD hHI hLO hold hi) hZ (wd hw 77 rfl) (wd hw 8 rfl) (by decide) (by decide)) (g := (mkF m 3 #[.val (.ref b), .val (.int i_)] [(.int n_), (.int i_)])) rfl (by rw [hml]; rfl) (argsL := [(.int i_), (.int n_)]) (rest := []) (lenOf pd_2 rfl) rfl (by show 2 * 0 + _ ≤ _; exact Nat.le_of_eq rfl) (hb hby d15_3) (fun _ _ => ⟨rfl, e0, (by decide : 0 + 0 ≤ _), (by decide : 0 + 0 ≤ _)⟩)
  dsimp only [Pt.U, Pt.locs, Pt.cells, Pt.slots] at X40 l40 y40 z40 st40 hQ40
  obtain rfl : k40 = 0 := y40
  obtain rfl : n40 = 0 := z40
  obtain ⟨rfl, N40q, e40⟩ := hQ40
  have N40 : Fr n0 L40 := by rw [l40]; exact Fr.app N0 N40q
  have G41 : Go p e below A0 (T40.setTop (mkF m 6 #[.val (.ref b), .val (.int i_)] [])) := fun tq kq => G39 tq (st40 _ kq)
  have G42 : Go p e below A0 (T40.setTop (mkF m 8 #[.val (.ref b), .val (.int i_)] [(.int i_), (.ref b)])) := fun tq kq => G41 tq (by
    refine XS.aloadN X40.here hx rfl (hb hby d15_6) rfl rfl ?_
    refine XS.iloadN X40.here hx rfl (hb hby d15_7) rfl ?_
    exact kq)
  obtain ⟨cl43, Ar43, q43, S43, M43, H43⟩ := id Ab
  have hi44 : ¬ (i_ < 0 ∨ cl43.slots.size ≤ (i_).toNatClampNeg) := (inb_of S43 hi)
  have G45 : Go p e below A0 (T40.setTop (mkF m 14 #[.val (.ref b), .val (.int i_)] [(.int (cf (i_).toNatClampNeg))])) := fun tq kq => G42 tq (by
    refine X40.baloadBytes hx (j := i_) (v := (.int (own_by (cf (i_).toNatClampNeg)))) (by rw [e40]; exact Ar43.1) (State.isArrayOf_alike hZ.alike Ar43.2.1) Ar43.2.2 hi44 ((H43 _ (S43 ▸ Nat.lt_of_not_le fun y => hi44 (Or.inr y))).trans (congrArg some rfl)) (g := (mkF m 8 #[.val (.ref b), .val (.int i_)] [(.int i_), (.ref b)])) rfl rfl (hb hby d15_8) _ ?_
    show Steps p.tables e below (T40.setTop (mkF m 9 #[.val (.ref b), .val (.int i_)] [(.int (own_by (cf (i_).toNatClampNeg)))])) _
    refine XS.sipush X40.here hx rfl (hb hby d15_9) ?_
    refine XS.iand X40.here hx rfl (hb hby d15_12) rfl ?_
    refine XS.i2c X40.here hx rfl (hb hby d15_13) rfl ?_
    show Steps p.tables e below (T40.setTop (mkF m 14 #[.val (.ref b), .val (.int i_)] [(.int ((own_by (cf (i_).toNatClampNeg)) &&& (255 : Int32)).toUInt32.toUInt16.toUInt32.toInt32)])) _
    rw [show ((own_by (cf (i_).toNatClampNeg)) &&& (255 : Int32)).toUInt32.toUInt16.toUInt32.toInt32 = (cf (i_).toNatClampNeg) from (own_chL hR hL)]
    show Steps p.tables e below (T40.setTop (mkF m 14 #[.val (.ref b), .val (.int i_)] [(.int (cf (i_).toNatClampNeg))])) _
    exact kq)
  obtain ⟨fs, hr, hrun, hended, hW, hsame⟩ := X40.leave (v := some (.int (nar .char (cf (i_).toNatClampNeg)))) (fun h => by rw [Bd.returns] at h; cases h)
  refine ⟨_, _, (by rw [← hA0]; exact G45 _ (retN X40 hx (t := .char) Bd.returns (by simp) (hb hby d15_14) hr)), hrun, hended, _, _, rfl, ?_, ⟨_, rfl⟩, hW, hsame.mono (by decide) (by decide)⟩
  exact ⟨(by rw [own_nC hR]), N40, e40⟩
set_option maxRecDepth 65536 in
set_option maxHeartbeats 40000000 in
theorem rmCo0 (l : Launch) (Z : State) (a0 : Array Value) (hw : ∀ d ∈ tables_1, d.before a0 Z = true) (ws : List Jvm.Cond) (a : Addr) (cs : Int32) (h0 : Heap) (n0 : Nat) (Z0 : n0 ≤ h0.size) (E : Exa Z h0 a "java/lang/String") (Fc : Fld Z h0 a "java/lang/String" "coder" "B" (.int 0)) (hCS : Sta Z Z.heap "java/lang/String" "COMPACT_STRINGS" "Z" (.int cs)) (hcs : ¬ cs = (0 : Int32)) (hold : Old Z n0 h0) :
    MetFree l (⟨"java/lang/String", "coder", "()B"⟩ : MethodName) (head1 (Jvm.Cond.code (⟨"java/lang/String", "coder", "()B"⟩ : MethodName) jdk_42_method_152_code 1 (some .byte) :: ws) (Rm 0 0 0 0)) (fun aa UU => aa = #[(.ref a)] ∧ Z.Warmed39 UU.vm ∧ UU.heap = h0) (fun _ _ _ _ _ => True) (fun _ UU oo U' => ∃ v L, oo = .returned v ∧ Qr (.int 0) h0 n0 v U'.heap L ∧ FrameEnd UU oo U' L (Rm 0 0 0 0).cells (Rm 0 0 0 0).slots) := by
  refine MetFree.of_bodySF (plainFor_of_name pn_1) hisR ?_
  intro p e s m args below meth c s₁ Bd hml0 hP hK
  obtain ⟨rfl, hZ, hh⟩ := hP
  have hx := Bd.exec
  have hby := Bd.bytes
  have hml : c.maxLocals = 1 := hml0
  have hown : s.vm.findClass "java/lang/String" = some m.cls := findClass_of_methodNamed Bd.named
  have hnm := (name_of_methodNamed Bd.named Bd.method).1
  have X0 : Stand p l e (Rm 0 0 0 0) s m #[(.ref a)] below meth c s₁ [] 0 0 := Stand.of_body Bd
  have e0 : s₁.heap = h0 := by rw [← hh, Bd.state]; rfl
  have N0 := Fr.nil n0
  obtain ⟨A0, hA0⟩ : ∃ A, A = s₁.setTop (entryFrame m #[(.ref a)] 1) := ⟨_, rfl⟩
  have G0 : Go p e below A0 (s₁.setTop (mkF m 0 #[.val (.ref a)] [])) := fun tq kq => by rw [hA0]; exact castTop (ef_rmCo0 m a) kq
  obtain ⟨T46, X46, e46, st46⟩ := getS2 X0 hx hZ hown (host := "") (Or.inl (wd hw 37 rfl)) Via.refl e0 (hCS.ext hold.2) (g := (mkF m 0 #[.val (.ref a)] [])) rfl (hb hby d12_0)
  have G47 : Go p e below A0 (T46.setTop (mkF m 3 #[.val (.ref a)] [(.int cs)])) := fun tq kq => G0 tq (st46 _ kq)
  have G48 : Go p e below A0 (T46.setTop (mkF m 7 #[.val (.ref a)] [(.ref a)])) := fun tq kq => G47 tq (by
    refine XS.ifNo X46.here hx rfl (hb hby d12_3) rfl ((if0 _ _).trans (feq hcs).1) ?_
    refine XS.aloadN X46.here hx rfl (hb hby d12_6) rfl rfl ?_
    exact kq)
  obtain ⟨T49, X49, e49, st49⟩ := getF X46 hx hZ hown (host := "") (Or.inl (wd hw 27 rfl)) Via.refl e46 Fc (g := (mkF m 7 #[.val (.ref a)] [(.ref a)])) rfl rfl (hb hby d12_7)
  have G50 : Go p e below A0 (T49.setTop (mkF m 10 #[.val (.ref a)] [(.int 0)])) := fun tq kq => G48 tq (st49 _ kq)
  have G51 : Go p e below A0 (T49.setTop (mkF m 14 #[.val (.ref a)] [(.int 0)])) := fun tq kq => G50 tq (by
    refine XS.goto X49.here hx rfl (pc0 := 10) (pc' := 14) rfl (hb hby d12_10) (by decide) (by decide) ?_
    exact kq)
  obtain ⟨fs, hr, hrun, hended, hW, hsame⟩ := X49.leave (v := some (.int (nar .byte (0 : Int32)))) (fun h => by rw [Bd.returns] at h; cases h)
  refine ⟨_, _, (by rw [← hA0]; exact G51 _ (retN X49 hx (t := .byte) Bd.returns (by simp) (hb hby d12_14) hr)), hrun, hended, _, _, rfl, ?_, ⟨_, rfl⟩, hW, hsame.mono (by decide) (by decide)⟩
  exact ⟨rfl, N0, e49⟩
set_option maxRecDepth 65536 in
set_option maxHeartbeats 40000000 in
theorem rmCo1 (l : Launch) (Z : State) (a0 : Array Value) (hw : ∀ d ∈ tables_1, d.before a0 Z = true) (ws : List Jvm.Cond) (a : Addr) (cs : Int32) (h0 : Heap) (n0 : Nat) (Z0 : n0 ≤ h0.size) (E : Exa Z h0 a "java/lang/String") (Fc : Fld Z h0 a "java/lang/String" "coder" "B" (.int 1)) (hCS : Sta Z Z.heap "java/lang/String" "COMPACT_STRINGS" "Z" (.int cs)) (hcs : ¬ cs = (0 : Int32)) (hold : Old Z n0 h0) :
    MetFree l (⟨"java/lang/String", "coder", "()B"⟩ : MethodName) (head1 (Jvm.Cond.code (⟨"java/lang/String", "coder", "()B"⟩ : MethodName) jdk_42_method_152_code 1 (some .byte) :: ws) (Rm 0 0 0 0)) (fun aa UU => aa = #[(.ref a)] ∧ Z.Warmed39 UU.vm ∧ UU.heap = h0) (fun _ _ _ _ _ => True) (fun _ UU oo U' => ∃ v L, oo = .returned v ∧ Qr (.int 1) h0 n0 v U'.heap L ∧ FrameEnd UU oo U' L (Rm 0 0 0 0).cells (Rm 0 0 0 0).slots) := by
  refine MetFree.of_bodySF (plainFor_of_name pn_1) hisR ?_
  intro p e s m args below meth c s₁ Bd hml0 hP hK
  obtain ⟨rfl, hZ, hh⟩ := hP
  have hx := Bd.exec
  have hby := Bd.bytes
  have hml : c.maxLocals = 1 := hml0
  have hown : s.vm.findClass "java/lang/String" = some m.cls := findClass_of_methodNamed Bd.named
  have hnm := (name_of_methodNamed Bd.named Bd.method).1
  have X0 : Stand p l e (Rm 0 0 0 0) s m #[(.ref a)] below meth c s₁ [] 0 0 := Stand.of_body Bd
  have e0 : s₁.heap = h0 := by rw [← hh, Bd.state]; rfl
  have N0 := Fr.nil n0
  obtain ⟨A0, hA0⟩ : ∃ A, A = s₁.setTop (entryFrame m #[(.ref a)] 1) := ⟨_, rfl⟩
  have G0 : Go p e below A0 (s₁.setTop (mkF m 0 #[.val (.ref a)] [])) := fun tq kq => by rw [hA0]; exact castTop (ef_rmCo1 m a) kq
  obtain ⟨T52, X52, e52, st52⟩ := getS2 X0 hx hZ hown (host := "") (Or.inl (wd hw 37 rfl)) Via.refl e0 (hCS.ext hold.2) (g := (mkF m 0 #[.val (.ref a)] [])) rfl (hb hby d12_0)
  have G53 : Go p e below A0 (T52.setTop (mkF m 3 #[.val (.ref a)] [(.int cs)])) := fun tq kq => G0 tq (st52 _ kq)
  have G54 : Go p e below A0 (T52.setTop (mkF m 7 #[.val (.ref a)] [(.ref a)])) := fun tq kq => G53 tq (by
    refine XS.ifNo X52.here hx rfl (hb hby d12_3) rfl ((if0 _ _).trans (feq hcs).1) ?_
    refine XS.aloadN X52.here hx rfl (hb hby d12_6) rfl rfl ?_
    exact kq)
  obtain ⟨T55, X55, e55, st55⟩ := getF X52 hx hZ hown (host := "") (Or.inl (wd hw 27 rfl)) Via.refl e52 Fc (g := (mkF m 7 #[.val (.ref a)] [(.ref a)])) rfl rfl (hb hby d12_7)
  have G56 : Go p e below A0 (T55.setTop (mkF m 10 #[.val (.ref a)] [(.int 1)])) := fun tq kq => G54 tq (st55 _ kq)
  have G57 : Go p e below A0 (T55.setTop (mkF m 14 #[.val (.ref a)] [(.int 1)])) := fun tq kq => G56 tq (by
    refine XS.goto X55.here hx rfl (pc0 := 10) (pc' := 14) rfl (hb hby d12_10) (by decide) (by decide) ?_
    exact kq)
  obtain ⟨fs, hr, hrun, hended, hW, hsame⟩ := X55.leave (v := some (.int (nar .byte (1 : Int32)))) (fun h => by rw [Bd.returns] at h; cases h)
  refine ⟨_, _, (by rw [← hA0]; exact G57 _ (retN X55 hx (t := .byte) Bd.returns (by simp) (hb hby d12_14) hr)), hrun, hended, _, _, rfl, ?_, ⟨_, rfl⟩, hW, hsame.mono (by decide) (by decide)⟩
  exact ⟨rfl, N0, e55⟩
set_option maxRecDepth 65536 in
set_option maxHeartbeats 40000000 in
theorem rmIL0 (l : Launch) (Z : State) (a0 : Array Value) (hw : ∀ d ∈ tables_1, d.before a0 Z = true) (ws : List Jvm.Cond) (a : Addr) (cs : Int32) (h0 : Heap) (n0 : Nat) (Z0 : n0 ≤ h0.size) (E : Exa Z h0 a "java/lang/String") (Fc : Fld Z h0 a "java/lang/String" "coder" "B" (.int 0)) (hCS : Sta Z Z.heap "java/lang/String" "COMPACT_STRINGS" "Z" (.int cs)) (hcs : ¬ cs = (0 : Int32)) (hold : Old Z n0 h0) :
    MetFree l (⟨"java/lang/String", "isLatin1", "()Z"⟩ : MethodName) (head1 (Jvm.Cond.code (⟨"java/lang/String", "isLatin1", "()Z"⟩ : MethodName) jdk_42_method_154_code 1 (some .boolean) :: ws) (Rm 0 0 0 0)) (fun aa UU => aa = #[(.ref a)] ∧ Z.Warmed39 UU.vm ∧ UU.heap = h0) (fun _ _ _ _ _ => True) (fun _ UU oo U' => ∃ v L, oo = .returned v ∧ Qr (.int 1) h0 n0 v U'.heap L ∧ FrameEnd UU oo U' L (Rm 0 0 0 0).cells (Rm 0 0 0 0).slots) := by
  refine MetFree.of_bodySF (plainFor_of_name pn_1) hisR ?_
  intro p e s m args below meth c s₁ Bd hml0 hP hK
  obtain ⟨rfl, hZ, hh⟩ := hP
  have hx := Bd.exec
  have hby := Bd.bytes
  have hml : c.maxLocals = 1 := hml0
  have hown : s.vm.findClass "java/lang/String" = some m.cls := findClass_of_methodNamed Bd.named
  have hnm := (name_of_methodNamed Bd.named Bd.method).1
  have X0 : Stand p l e (Rm 0 0 0 0) s m #[(.ref a)] below meth c s₁ [] 0 0 := Stand.of_body Bd
  have e0 : s₁.heap = h0 := by rw [← hh, Bd.state]; rfl
  have N0 := Fr.nil n0
  obtain ⟨A0, hA0⟩ : ∃ A, A = s₁.setTop (entryFrame m #[(.ref a)] 1) := ⟨_, rfl⟩
  have G0 : Go p e below A0 (s₁.setTop (mkF m 0 #[.val (.ref a)] [])) := fun tq kq => by rw [hA0]; exact castTop (ef_rmIL0 m a) kq
  obtain ⟨T58, X58, e58, st58⟩ := getS2 X0 hx hZ hown (host := "") (Or.inl (wd hw 37 rfl)) Via.refl e0 (hCS.ext hold.2) (g := (mkF m 0 #[.val (.ref a)] [])) rfl (hb hby d14_0)
  have G59 : Go p e below A0 (T58.setTop (mkF m 3 #[.val (.ref a)] [(.int cs)])) := fun tq kq => G0 tq (st58 _ kq)
  have G60 : Go p e below A0 (T58.setTop (mkF m 7 #[.val (.ref a)] [(.ref a)])) := fun tq kq => G59 tq (by
    refine XS.ifNo X58.here hx rfl (hb hby d14_3) rfl ((if0 _ _).trans (feq hcs).1) ?_
    refine XS.aloadN X58.here hx rfl (hb hby d14_6) rfl rfl ?_
    exact kq)
  obtain ⟨T61, X61, e61, st61⟩ := getF X58 hx hZ hown (host := "") (Or.inl (wd hw 27 rfl)) Via.refl e58 Fc (g := (mkF m 7 #[.val (.ref a)] [(.ref a)])) rfl rfl (hb hby d14_7)
  have G62 : Go p e below A0 (T61.setTop (mkF m 10 #[.val (.ref a)] [(.int 0)])) := fun tq kq => G60 tq (st61 _ kq)
  have G63 : Go p e below A0 (T61.setTop (mkF m 18 #[.val (.ref a)] [(.int 1)])) := fun tq kq => G62 tq (by
    refine XS.ifNo X61.here hx rfl (hb hby d14_10) rfl (by decide) ?_
    refine XS.iconst X61.here hx rfl (hb hby d14_13) ?_
    refine XS.goto X61.here hx rfl (pc0 := 14) (pc' := 18) rfl (hb hby d14_14) (by decide) (by decide) ?_
    exact kq)
  obtain ⟨fs, hr, hrun, hended, hW, hsame⟩ := X61.leave (v := some (.int (nar .boolean (1 : Int32)))) (fun h => by rw [Bd.returns] at h; cases h)
  refine ⟨_, _, (by rw [← hA0]; exact G63 _ (retN X61 hx (t := .boolean) Bd.returns (by simp) (hb hby d14_18) hr)), hrun, hended, _, _, rfl, ?_, ⟨_, rfl⟩, hW, hsame.mono (by decide) (by decide)⟩
  exact ⟨rfl, N0, e61⟩
set_option maxRecDepth 65536 in
set_option maxHeartbeats 40000000 in
theorem rmIL1 (l : Launch) (Z : State) (a0 : Array Value) (hw : ∀ d ∈ tables_1, d.before a0 Z = true) (ws : List Jvm.Cond) (a : Addr) (cs : Int32) (h0 : Heap) (n0 : Nat) (Z0 : n0 ≤ h0.size) (E : Exa Z h0 a "java/lang/String") (Fc : Fld Z h0 a "java/lang/String" "coder" "B" (.int 1)) (hCS : Sta Z Z.heap "java/lang/String" "COMPACT_STRINGS" "Z" (.int cs)) (hcs : ¬ cs = (0 : Int32)) (hold : Old Z n0 h0) :
    MetFree l (⟨"java/lang/String", "isLatin1", "()Z"⟩ : MethodName) (head1 (Jvm.Cond.code (⟨"java/lang/String", "isLatin1", "()Z"⟩ : MethodName) jdk_42_method_154_code 1 (some .boolean) :: ws) (Rm 0 0 0 0)) (fun aa UU => aa = #[(.ref a)] ∧ Z.Warmed39 UU.vm ∧ UU.heap = h0) (fun _ _ _ _ _ => True) (fun _ UU oo U' => ∃ v L, oo = .returned v ∧ Qr (.int 0) h0 n0 v U'.heap L ∧ FrameEnd UU oo U' L (Rm 0 0 0 0).cells (Rm 0 0 0 0).slots) := by
  refine MetFree.of_bodySF (plainFor_of_name pn_1) hisR ?_
  intro p e s m args below meth c s₁ Bd hml0 hP hK
  obtain ⟨rfl, hZ, hh⟩ := hP
  have hx := Bd.exec
  have hby := Bd.bytes
  have hml : c.maxLocals = 1 := hml0
  have hown : s.vm.findClass "java/lang/String" = some m.cls := findClass_of_methodNamed Bd.named
  have hnm := (name_of_methodNamed Bd.named Bd.method).1
  have X0 : Stand p l e (Rm 0 0 0 0) s m #[(.ref a)] below meth c s₁ [] 0 0 := Stand.of_body Bd
  have e0 : s₁.heap = h0 := by rw [← hh, Bd.state]; rfl
  have N0 := Fr.nil n0
  obtain ⟨A0, hA0⟩ : ∃ A, A = s₁.setTop (entryFrame m #[(.ref a)] 1) := ⟨_, rfl⟩
  have G0 : Go p e below A0 (s₁.setTop (mkF m 0 #[.val (.ref a)] [])) := fun tq kq => by rw [hA0]; exact castTop (ef_rmIL1 m a) kq
  obtain ⟨T64, X64, e64, st64⟩ := getS2 X0 hx hZ hown (host := "") (Or.inl (wd hw 37 rfl)) Via.refl e0 (hCS.ext hold.2) (g := (mkF m 0 #[.val (.ref a)] [])) rfl (hb hby d14_0)
  have G65 : Go p e below A0 (T64.setTop (mkF m 3 #[.val (.ref a)] [(.int cs)])) := fun tq kq => G0 tq (st64 _ kq)
  have G66 : Go p e below A0 (T64.setTop (mkF m 7 #[.val (.ref a)] [(.ref a)])) := fun tq kq => G65 tq (by
    refine XS.ifNo X64.here hx rfl (hb hby d14_3) rfl ((if0 _ _).trans (feq hcs).1) ?_
    refine XS.aloadN X64.here hx rfl (hb hby d14_6) rfl rfl ?_
    exact kq)
  obtain ⟨T67, X67, e67, st67⟩ := getF X64 hx hZ hown (host := "") (Or.inl (wd hw 27 rfl)) Via.refl e64 Fc (g := (mkF m 7 #[.val (.ref a)] [(.ref a)])) rfl rfl (hb hby d14_7)
  have G68 : Go p e below A0 (T67.setTop (mkF m 10 #[.val (.ref a)] [(.int 1)])) := fun tq kq => G66 tq (st67 _ kq)
  have G69 : Go p e below A0 (T67.setTop (mkF m 18 #[.val (.ref a)] [(.int 0)])) := fun tq kq => G68 tq (by
    refine XS.ifYes X67.here hx rfl (pc0 := 10) (pc' := 17) rfl (hb hby d14_10) rfl (by decide) (by decide) (by decide) ?_
    refine XS.iconst X67.here hx rfl (hb hby d14_17) ?_
    exact kq)
  obtain ⟨fs, hr, hrun, hended, hW, hsame⟩ := X67.leave (v := some (.int (nar .boolean (0 : Int32)))) (fun h => by rw [Bd.returns] at h; cases h)
  refine ⟨_, _, (by rw [← hA0]; exact G69 _ (retN X67 hx (t := .boolean) Bd.returns (by simp) (hb hby d14_18) hr)), hrun, hended, _, _, rfl, ?_, ⟨_, rfl⟩, hW, hsame.mono (by decide) (by decide)⟩
  exact ⟨rfl, N0, e67⟩
set_option maxRecDepth 65536 in
set_option maxHeartbeats 40000000 in
theorem rmLeL (l : Launch) (Z : State) (a0 : Array Value) (hw : ∀ d ∈ tables_1, d.before a0 Z = true) (ws : List Jvm.Cond) (a b : Addr) (kb : ClassId) (cf : Nat → Int32) (n_ z2 : Int32) (cs : Int32) (fo : Value) (h0 : Heap) (n0 : Nat) (Z0 : n0 ≤ h0.size) (E : Exa Z h0 a "java/lang/String") (Fv : Fld Z h0 a "java/lang/String" "value" "[B" (.ref b)) (Fc : Fld Z h0 a "java/lang/String" "coder" "B" (.int 0)) (Ab : Af Z h0 b kb .byte n_ (fun j => .int (own_by (cf j)))) (hz2 : own_dbl n_ z2) (hCS : Sta Z Z.heap "java/lang/String" "COMPACT_STRINGS" "Z" (.int cs)) (hcs : ¬ cs = (0 : Int32)) (hSF : Sta Z Z.heap "jdk/internal/util/Preconditions" "SIOOBE_FORMATTER" "Ljava/util/function/BiFunction;" fo) (hfo : fo.isRef = true) (hAD : Sta Z Z.heap "java/lang/StringUTF16" "$assertionsDisabled" "Z" (.int 1)) (hHI : Sta Z Z.heap "java/lang/StringUTF16" "HI_BYTE_SHIFT" "I" (.int 0)) (hLO : Sta Z Z.heap "java/lang/StringUTF16" "LO_BYTE_SHIFT" "I" (.int 8)) (hold : Old Z n0 h0) :
    MetFree l (⟨"java/lang/String", "length", "()I"⟩ : MethodName) (head1 (Jvm.Cond.code (⟨"java/lang/String", "length", "()I"⟩ : MethodName) jdk_42_method_54_code 1 (some .int) :: ws) (Rm 1 0 0 13)) (fun aa UU => aa = #[(.ref a)] ∧ Z.Warmed39 UU.vm ∧ UU.heap = h0) (fun _ _ _ _ _ => True) (fun _ UU oo U' => ∃ v L, oo = .returned v ∧ Qr (.int n_) h0 n0 v U'.heap L ∧ FrameEnd UU oo U' L (Rm 1 0 0 13).cells (Rm 1 0 0 13).slots) := by
  refine MetFree.of_bodySF (plainFor_of_name pn_1) hisR ?_
  intro p e s m args below meth c s₁ Bd hml0 hP hK
  obtain ⟨rfl, hZ, hh⟩ := hP
  have hx := Bd.exec
  have hby := Bd.bytes
  have hml : c.maxLocals = 1 := hml0
  have hown : s.vm.findClass "java/lang/String" = some m.cls := findClass_of_methodNamed Bd.named
  have hnm := (name_of_methodNamed Bd.named Bd.method).1
  have X0 : Stand p l e (Rm 1 0 0 13) s m #[(.ref a)] below meth c s₁ [] 0 0 := Stand.of_body Bd
  have e0 : s₁.heap = h0 := by rw [← hh, Bd.state]; rfl
  have N0 := Fr.nil n0
  obtain ⟨A0, hA0⟩ : ∃ A, A = s₁.setTop (entryFrame m #[(.ref a)] 1) := ⟨_, rfl⟩
  have G0 : Go p e below A0 (s₁.setTop (mkF m 0 #[.val (.ref a)] [])) := fun tq kq => by rw [hA0]; exact castTop (ef_rmLeL m a) kq
  have G70 : Go p e below A0 (s₁.setTop (mkF m 1 #[.val (.ref a)] [(.ref a)])) := fun tq kq => G0 tq (by
    refine XS.aloadN X0.here hx rfl (hb hby d11_0) rfl rfl ?_
    exact kq)
  obtain ⟨T71, X71, e71, st71⟩ := getF X0 hx hZ hown (host := "") (Or.inl (wd hw 26 rfl)) Via.refl e0 Fv (g := (mkF m 1 #[.val (.ref a)] [(.ref a)])) rfl rfl (hb hby d11_1)
  have G72 : Go p e below A0 (T71.setTop (mkF m 4 #[.val (.ref a)] [(.ref b)])) := fun tq kq => G70 tq (st71 _ kq)
  obtain ⟨cl73, Ar73, q73, S73, M73, H73⟩ := id Ab
  have G74 : Go p e below A0 (T71.setTop (mkF m 6 #[.val (.ref a)] [(.ref a), (.int n_)])) := fun tq kq => G72 tq (by
    refine X71.arraylength hx (by rw [e71]; exact Ar73.1) (State.isArrayOf_alike hZ.alike Ar73.2.1) (g := (mkF m 4 #[.val (.ref a)] [(.ref b)])) rfl rfl (hb hby d11_4) _ ?_
    rw [len_of S73 M73]
    show Steps p.tables e below (T71.setTop (mkF m 5 #[.val (.ref a)] [(.int n_)])) _
    refine XS.aloadN X71.here hx rfl (hb hby d11_5) rfl rfl ?_
    exact kq)
  obtain ⟨cq75, kq75, q75a, q75b, q75c⟩ := isOf hZ e71 E
  obtain ⟨_, _, ⟨T75, L75, k75, n75⟩, -, X75, ⟨Lc75, hQ75, l75, y75, z75⟩, st75⟩ := X71.virtualBack hx (y := (⟨"java/lang/String", "coder", "()B"⟩ : MethodName)) (z := (⟨"java/lang/String", "coder", "()B"⟩ : MethodName)) hown (mvT hZ (wd hw 56 rfl)) (mvT hZ (wd hw 57 rfl)) (notFace_of_selects (args := #[]) (mvT hZ (wd hw 59 rfl))) (mvT hZ (wd hw 59 rfl)) (mvT hZ (wd hw 58 rfl)) (by decide) (backOf (W := 1) (rmCo0 l Z a0 hw [] a cs h0 n0 Z0 E Fc hCS hcs hold) hZ (wd hw 60 rfl) (wd hw 8 rfl) (by decide) (by decide)) q75a q75c (g := (mkF m 6 #[.val (.ref a)] [(.ref a), (.int n_)])) rfl (by rw [hml]; rfl) (Steps.refl _) (argsL := []) (rest := [(.int n_)]) (lenOf pd_5 rfl) rfl (by show 2 * 0 + _ ≤ _; exact Nat.le_of_eq rfl) (hb hby d11_6) (fun _ _ => ⟨rfl, e71, (by decide : 0 + 0 ≤ _), (by decide : 0 + 0 ≤ _)⟩)
  dsimp only [Pt.U, Pt.locs, Pt.cells, Pt.slots] at X75 l75 y75 z75 st75 hQ75
  obtain rfl : k75 = 0 := y75
  obtain rfl : n75 = 0 := z75
  obtain ⟨rfl, N75q, e75⟩ := hQ75
  have N75 : Fr n0 L75 := by rw [l75]; exact Fr.app N0 N75q
  have G76 : Go p e below A0 (T75.setTop (mkF m 9 #[.val (.ref a)] [(.int 0), (.int n_)])) := fun tq kq => G74 tq (st75.trans kq)
  have G77 : Go p e below A0 (T75.setTop (mkF m 10 #[.val (.ref a)] [(.int n_)])) := fun tq kq => G76 tq (by
    refine XS.ishr X75.here hx rfl (hb hby d11_9) rfl ?_
    show Steps p.tables e below (T75.setTop (mkF m 10 #[.val (.ref a)] [(.int (n_ >>> ((0 : Int32) &&& 31)))])) _
    rw [show (n_ >>> ((0 : Int32) &&& 31)) = n_ from (by rw [show ((0 : Int32) &&& 31) = 0 from by decide]; simp)]
    show Steps p.tables e below (T75.setTop (mkF m 10 #[.val (.ref a)] [(.int n_)])) _
    exact kq)
  obtain ⟨fs, hr, hrun, hended, hW, hsame⟩ := X75.leave (v := some (.int n_)) (fun h => by rw [Bd.returns] at h; cases h)
  refine ⟨_, _, (by rw [← hA0]; exact G77 _ (retOut X75 hx (t := .int) Bd.returns rfl (Or.inl ⟨rfl, Or.inl rfl, _, rfl⟩) (hb hby d11_10) hr)), hrun, hended, _, _, rfl, ?_, ⟨_, rfl⟩, hW, hsame.mono (by decide) (by decide)⟩
  exact ⟨rfl, N75, e75⟩
set_option maxRecDepth 65536 in
set_option maxHeartbeats 40000000 in
theorem rmIEL (l : Launch) (Z : State) (a0 : Array Value) (hw : ∀ d ∈ tables_1, d.before a0 Z = true) (ws : List Jvm.Cond) (a b : Addr) (kb : ClassId) (cf : Nat → Int32) (n_ z2 : Int32) (cs : Int32) (fo : Value) (h0 : Heap) (n0 : Nat) (Z0 : n0 ≤ h0.size) (E : Exa Z h0 a "java/lang/String") (Fv : Fld Z h0 a "java/lang/String" "value" "[B" (.ref b)) (Fc : Fld Z h0 a "java/lang/String" "coder" "B" (.int 0)) (Ab : Af Z h0 b kb .byte n_ (fun j => .int (own_by (cf j)))) (hne : ¬ n_ = (0 : Int32)) (hCS : Sta Z Z.heap "java/lang/String" "COMPACT_STRINGS" "Z" (.int cs)) (hcs : ¬ cs = (0 : Int32)) (hSF : Sta Z Z.heap "jdk/internal/util/Preconditions" "SIOOBE_FORMATTER" "Ljava/util/function/BiFunction;" fo) (hfo : fo.isRef = true) (hAD : Sta Z Z.heap "java/lang/StringUTF16" "$assertionsDisabled" "Z" (.int 1)) (hHI : Sta Z Z.heap "java/lang/StringUTF16" "HI_BYTE_SHIFT" "I" (.int 0)) (hLO : Sta Z Z.heap "java/lang/StringUTF16" "LO_BYTE_SHIFT" "I" (.int 8)) (hold : Old Z n0 h0) :
    MetFree l (⟨"java/lang/String", "isEmpty", "()Z"⟩ : MethodName) (head1 (Jvm.Cond.code (⟨"java/lang/String", "isEmpty", "()Z"⟩ : MethodName) jdk_42_method_55_code 1 (some .boolean) :: ws) (Rm 0 0 0 0)) (fun aa UU => aa = #[(.ref a)] ∧ Z.Warmed39 UU.vm ∧ UU.heap = h0) (fun _ _ _ _ _ => True) (fun _ UU oo U' => ∃ v L, oo = .returned v ∧ Qr (.int 0) h0 n0 v U'.heap L ∧ FrameEnd UU oo U' L (Rm 0 0 0 0).cells (Rm 0 0 0 0).slots) := by
  refine MetFree.of_bodySF (plainFor_of_name pn_1) hisR ?_
  intro p e s m args below meth c s₁ Bd hml0 hP hK
  obtain ⟨rfl, hZ, hh⟩ := hP
  have hx := Bd.exec
  have hby := Bd.bytes
  have hml : c.maxLocals = 1 := hml0
  have hown : s.vm.findClass "java/lang/String" = some m.cls := findClass_of_methodNamed Bd.named
  have hnm := (name_of_methodNamed Bd.named Bd.method).1
  have X0 : Stand p l e (Rm 0 0 0 0) s m #[(.ref a)] below meth c s₁ [] 0 0 := Stand.of_body Bd
  have e0 : s₁.heap = h0 := by rw [← hh, Bd.state]; rfl
  have N0 := Fr.nil n0
  obtain ⟨A0, hA0⟩ : ∃ A, A = s₁.setTop (entryFrame m #[(.ref a)] 1) := ⟨_, rfl⟩
  have G0 : Go p e below A0 (s₁.setTop (mkF m 0 #[.val (.ref a)] [])) := fun tq kq => by rw [hA0]; exact castTop (ef_rmIEL m a) kq
  have G78 : Go p e below A0 (s₁.setTop (mkF m 1 #[.val (.ref a)] [(.ref a)])) := fun tq kq => G0 tq (by
    refine XS.aloadN X0.here hx rfl (hb hby d6_0) rfl rfl ?_
    exact kq)
  obtain ⟨T79, X79, e79, st79⟩ := getF X0 hx hZ hown (host := "") (Or.inl (wd hw 26 rfl)) Via.refl e0 Fv (g := (mkF m 1 #[.val (.ref a)] [(.ref a)])) rfl rfl (hb hby d6_1)
  have G80 : Go p e below A0 (T79.setTop (mkF m 4 #[.val (.ref a)] [(.ref b)])) := fun tq kq => G78 tq (st79 _ kq)
  obtain ⟨cl81, Ar81, q81, S81, M81, H81⟩ := id Ab
  have G82 : Go p e below A0 (T79.setTop (mkF m 13 #[.val (.ref a)] [(.int 0)])) := fun tq kq => G80 tq (by
    refine X79.arraylength hx (by rw [e79]; exact Ar81.1) (State.isArrayOf_alike hZ.alike Ar81.2.1) (g := (mkF m 4 #[.val (.ref a)] [(.ref b)])) rfl rfl (hb hby d6_4) _ ?_
    rw [len_of S81 M81]
    show Steps p.tables e below (T79.setTop (mkF m 5 #[.val (.ref a)] [(.int n_)])) _
    refine XS.ifYes X79.here hx rfl (pc0 := 5) (pc' := 12) rfl (hb hby d6_5) rfl ((if0 _ _).trans (feq hne).2) (by decide) (by decide) ?_
    refine XS.iconst X79.here hx rfl (hb hby d6_12) ?_
    exact kq)
  obtain ⟨fs, hr, hrun, hended, hW, hsame⟩ := X79.leave (v := some (.int (nar .boolean (0 : Int32)))) (fun h => by rw [Bd.returns] at h; cases h)
  refine ⟨_, _, (by rw [← hA0]; exact G82 _ (retN X79 hx (t := .boolean) Bd.returns (by simp) (hb hby d6_13) hr)), hrun, hended, _, _, rfl, ?_, ⟨_, rfl⟩, hW, hsame.mono (by decide) (by decide)⟩
  exact ⟨rfl, N0, e79⟩
set_option maxRecDepth 65536 in
set_option maxHeartbeats 40000000 in
theorem rmCAL (l : Launch) (Z : State) (a0 : Array Value) (hw : ∀ d ∈ tables_1, d.before a0 Z = true) (ws : List Jvm.Cond) (a b : Addr) (kb : ClassId) (cf : Nat → Int32) (i_ n_ z2 : Int32) (cs : Int32) (fo : Value) (h0 : Heap) (n0 : Nat) (Z0 : n0 ≤ h0.size) (E : Exa Z h0 a "java/lang/String") (Fv : Fld Z h0 a "java/lang/String" "value" "[B" (.ref b)) (Fc : Fld Z h0 a "java/lang/String" "coder" "B" (.int 0)) (Ab : Af Z h0 b kb .byte n_ (fun j => .int (own_by (cf j)))) (hz2 : own_dbl n_ z2) (hi : ¬ i_ < (0 : Int32) ∧ i_ < n_) (hR : own_R (cf (i_).toNatClampNeg)) (hL : ¬ (255 : Int32) < (cf (i_).toNatClampNeg)) (hCS : Sta Z Z.heap "java/lang/String" "COMPACT_STRINGS" "Z" (.int cs)) (hcs : ¬ cs = (0 : Int32)) (hSF : Sta Z Z.heap "jdk/internal/util/Preconditions" "SIOOBE_FORMATTER" "Ljava/util/function/BiFunction;" fo) (hfo : fo.isRef = true) (hAD : Sta Z Z.heap "java/lang/StringUTF16" "$assertionsDisabled" "Z" (.int 1)) (hHI : Sta Z Z.heap "java/lang/StringUTF16" "HI_BYTE_SHIFT" "I" (.int 0)) (hLO : Sta Z Z.heap "java/lang/StringUTF16" "LO_BYTE_SHIFT" "I" (.int 8)) (hold : Old Z n0 h0) :
    MetFree l (⟨"java/lang/String", "charAt", "(I)C"⟩ : MethodName) (head1 (Jvm.Cond.code (⟨"java/lang/String", "charAt", "(I)C"⟩ : MethodName) jdk_42_method_56_code 2 (some .char) :: ws) (Rm 3 0 0 40)) (fun aa UU => aa = #[(.ref a), (.int i_)] ∧ Z.Warmed39 UU.vm ∧ UU.heap = h0) (fun _ _ _ _ _ => True) (fun _ UU oo U' => ∃ v L, oo = .returned v ∧ Qr (.int (cf (i_).toNatClampNeg)) h0 n0 v U'.heap L ∧ FrameEnd UU oo U' L (Rm 3 0 0 40).cells (Rm 3 0 0 40).slots) := by
  refine MetFree.of_bodySF (plainFor_of_name pn_1) hisR ?_
  intro p e s m args below meth c s₁ Bd hml0 hP hK
  obtain ⟨rfl, hZ, hh⟩ := hP
  have hx := Bd.exec
  have hby := Bd.bytes
  have hml : c.maxLocals = 2 := hml0
  have hown : s.vm.findClass "java/lang/String" = some m.cls := findClass_of_methodNamed Bd.named
  have hnm := (name_of_methodNamed Bd.named Bd.method).1
  have X0 : Stand p l e (Rm 3 0 0 40) s m #[(.ref a), (.int i_)] below meth c s₁ [] 0 0 := Stand.of_body Bd
  have e0 : s₁.heap = h0 := by rw [← hh, Bd.state]; rfl
  have N0 := Fr.nil n0
  obtain ⟨A0, hA0⟩ : ∃ A, A = s₁.setTop (entryFrame m #[(.ref a), (.int i_)] 2) := ⟨_, rfl⟩
  have G0 : Go p e below A0 (s₁.setTop (mkF m 0 #[.val (.ref a), .val (.int i_)] [])) := fun tq kq => by rw [hA0]; exact castTop (ef_rmCAL m a i_) kq
  have G83 : Go p e below A0 (s₁.setTop (mkF m 1 #[.val (.ref a), .val (.int i_)] [(.ref a)])) := fun tq kq => G0 tq (by
    refine XS.aloadN X0.here hx rfl (hb hby d13_0) rfl rfl ?_
    exact kq)
  obtain ⟨cq84, kq84, q84a, q84b, q84c⟩ := isOf hZ e0 E
  obtain ⟨_, _, ⟨T84, L84, k84, n84⟩, -, X84, ⟨Lc84, hQ84, l84, y84, z84⟩, st84⟩ := X0.virtualBack hx (y := (⟨"java/lang/String", "isLatin1", "()Z"⟩ : MethodName)) (z := (⟨"java/lang/String", "isLatin1", "()Z"⟩ : MethodName)) hown (mvT hZ (wd hw 66 rfl)) (mvT hZ (wd hw 67 rfl)) (notFace_of_selects (args := #[]) (mvT hZ (wd hw 69 rfl))) (mvT hZ (wd hw 69 rfl)) (mvT hZ (wd hw 68 rfl)) (by decide) (backOf (W := 0) (rmIL0 l Z a0 hw [] a cs h0 n0 Z0 E Fc hCS hcs hold) hZ (wd hw 70 rfl) (wd hw 8 rfl) (by decide) (by decide)) q84a q84c (g := (mkF m 1 #[.val (.ref a), .val (.int i_)] [(.ref a)])) rfl (by rw [hml]; rfl) (Steps.refl _) (argsL := []) (rest := []) (lenOf pd_6 rfl) rfl (by show 2 * 0 + _ ≤ _; exact Nat.le_of_eq rfl) (hb hby d13_1) (fun _ _ => ⟨rfl, e0, (by decide : 0 + 0 ≤ _), (by decide : 0 + 0 ≤ _)⟩)
  dsimp only [Pt.U, Pt.locs, Pt.cells, Pt.slots] at X84 l84 y84 z84 st84 hQ84
  obtain rfl : k84 = 0 := y84
  obtain rfl : n84 = 0 := z84
  obtain ⟨rfl, N84q, e84⟩ := hQ84
  have N84 : Fr n0 L84 := by rw [l84]; exact Fr.app N0 N84q
  have G85 : Go p e below A0 (T84.setTop (mkF m 4 #[.val (.ref a), .val (.int i_)] [(.int 1)])) := fun tq kq => G83 tq (st84.trans kq)
  have G86 : Go p e below A0 (T84.setTop (mkF m 8 #[.val (.ref a), .val (.int i_)] [(.ref a)])) := fun tq kq => G85 tq (by
    refine XS.ifNo X84.here hx rfl (hb hby d13_4) rfl (by decide) ?_
    refine XS.aloadN X84.here hx rfl (hb hby d13_7) rfl rfl ?_
    exact kq)
  obtain ⟨T87, X87, e87, st87⟩ := getF X84 hx hZ hown (host := "") (Or.inl (wd hw 26 rfl)) Via.refl e84 Fv (g := (mkF m 8 #[.val (.ref a), .val (.int i_)] [(.ref a)])) rfl rfl (hb hby d13_8)
  have G88 : Go p e below A0 (T87.setTop (mkF m 11 #[.val (.ref a), .val (.int i_)] [(.ref b)])) := fun tq kq => G86 tq (st87 _ kq)
  have G89 : Go p e below A0 (T87.setTop (mkF m 12 #[.val (.ref a), .val (.int i_)] [(.int i_), (.ref b)])) := fun tq kq => G88 tq (by
    refine XS.iloadN X87.here hx rfl (hb hby d13_11) rfl ?_
    exact kq)
  obtain ⟨_, _, ⟨T90, L90, k90, n90⟩, -, X90, ⟨Lc90, hQ90, l90, y90, z90⟩, st90⟩ := Jvm.LawKit.callS X87 hx (y := (⟨"java/lang/StringLatin1", "charAt", "([BI)C"⟩ : MethodName)) hown (mvT hZ (wd hw 71 rfl)) (mvT hZ (wd hw 72 rfl)) (mvT hZ (wd hw 73 rfl)) (mvT hZ (wd hw 74 rfl)) (by decide) (backOf (W := 0) (rmLC l Z a0 hw [] b kb cf i_ n_ z2 cs fo h0 n0 Z0 Ab hz2 hi hR hL hCS hcs hSF hfo hAD hHI hLO hold) hZ (wd hw 74 rfl) (wd hw 73 rfl) (by decide) (by decide)) (g := (mkF m 12 #[.val (.ref a), .val (.int i_)] [(.int i_), (.ref b)])) rfl (by rw [hml]; rfl) (argsL := [(.ref b), (.int i_)]) (rest := []) (lenOf pd_4 rfl) rfl (by show 2 * 0 + _ ≤ _; exact Nat.le_of_eq rfl) (hb hby d13_12) (fun _ _ => ⟨rfl, e87, (by decide : 0 + 0 ≤ _), (by decide : 0 + 0 ≤ _)⟩)
  dsimp only [Pt.U, Pt.locs, Pt.cells, Pt.slots] at X90 l90 y90 z90 st90 hQ90
  obtain rfl : k90 = 0 := y90
  obtain rfl : n90 = 0 := z90
  obtain ⟨rfl, N90q, e90⟩ := hQ90
  have N90 : Fr n0 L90 := by rw [l90]; exact Fr.app N84 N90q
  have G91 : Go p e below A0 (T90.setTop (mkF m 15 #[.val (.ref a), .val (.int i_)] [(.int (cf (i_).toNatClampNeg))])) := fun tq kq => G89 tq (st90 _ kq)
  obtain ⟨fs, hr, hrun, hended, hW, hsame⟩ := X90.leave (v := some (.int (nar .char (cf (i_).toNatClampNeg)))) (fun h => by rw [Bd.returns] at h; cases h)
  refine ⟨_, _, (by rw [← hA0]; exact G91 _ (retN X90 hx (t := .char) Bd.returns (by simp) (hb hby d13_15) hr)), hrun, hended, _, _, rfl, ?_, ⟨_, rfl⟩, hW, hsame.mono (by decide) (by decide)⟩
  exact ⟨(by rw [own_nC hR]), N90, e90⟩
set_option maxRecDepth 65536 in
set_option maxHeartbeats 40000000 in
theorem rmLeU (l : Launch) (Z : State) (a0 : Array Value) (hw : ∀ d ∈ tables_1, d.before a0 Z = true) (ws : List Jvm.Cond) (a b : Addr) (kb : ClassId) (cf : Nat → Int32) (n_ z2 : Int32) (cs : Int32) (fo : Value) (h0 : Heap) (n0 : Nat) (Z0 : n0 ≤ h0.size) (E : Exa Z h0 a "java/lang/String") (Fv : Fld Z h0 a "java/lang/String" "value" "[B" (.ref b)) (Fc : Fld Z h0 a "java/lang/String" "coder" "B" (.int 1)) (Ab : Af Z h0 b kb .byte z2 (fun j => .int (own_ub cf j))) (hz2 : own_dbl n_ z2) (hCS : Sta Z Z.heap "java/lang/String" "COMPACT_STRINGS" "Z" (.int cs)) (hcs : ¬ cs = (0 : Int32)) (hSF : Sta Z Z.heap "jdk/internal/util/Preconditions" "SIOOBE_FORMATTER" "Ljava/util/function/BiFunction;" fo) (hfo : fo.isRef = true) (hAD : Sta Z Z.heap "java/lang/StringUTF16" "$assertionsDisabled" "Z" (.int 1)) (hHI : Sta Z Z.heap "java/lang/StringUTF16" "HI_BYTE_SHIFT" "I" (.int 0)) (hLO : Sta Z Z.heap "java/lang/StringUTF16" "LO_BYTE_SHIFT" "I" (.int 8)) (hold : Old Z n0 h0) :
    MetFree l (⟨"java/lang/String", "length", "()I"⟩ : MethodName) (head1 (Jvm.Cond.code (⟨"java/lang/String", "length", "()I"⟩ : MethodName) jdk_42_method_54_code 1 (some .int) :: ws) (Rm 1 0 0 13)) (fun aa UU => aa = #[(.ref a)] ∧ Z.Warmed39 UU.vm ∧ UU.heap = h0) (fun _ _ _ _ _ => True) (fun _ UU oo U' => ∃ v L, oo = .returned v ∧ Qr (.int n_) h0 n0 v U'.heap L ∧ FrameEnd UU oo U' L (Rm 1 0 0 13).cells (Rm 1 0 0 13).slots) := by
  refine MetFree.of_bodySF (plainFor_of_name pn_1) hisR ?_
  intro p e s m args below meth c s₁ Bd hml0 hP hK
  obtain ⟨rfl, hZ, hh⟩ := hP
  have hx := Bd.exec
  have hby := Bd.bytes
  have hml : c.maxLocals = 1 := hml0
  have hown : s.vm.findClass "java/lang/String" = some m.cls := findClass_of_methodNamed Bd.named
  have hnm := (name_of_methodNamed Bd.named Bd.method).1
  have X0 : Stand p l e (Rm 1 0 0 13) s m #[(.ref a)] below meth c s₁ [] 0 0 := Stand.of_body Bd
  have e0 : s₁.heap = h0 := by rw [← hh, Bd.state]; rfl
  have N0 := Fr.nil n0
  obtain ⟨A0, hA0⟩ : ∃ A, A = s₁.setTop (entryFrame m #[(.ref a)] 1) := ⟨_, rfl⟩
  have G0 : Go p e below A0 (s₁.setTop (mkF m 0 #[.val (.ref a)] [])) := fun tq kq => by rw [hA0]; exact castTop (ef_rmLeU m a) kq
  have G92 : Go p e below A0 (s₁.setTop (mkF m 1 #[.val (.ref a)] [(.ref a)])) := fun tq kq => G0 tq (by
    refine XS.aloadN X0.here hx rfl (hb hby d11_0) rfl rfl ?_
    exact kq)
  obtain ⟨T93, X93, e93, st93⟩ := getF X0 hx hZ hown (host := "") (Or.inl (wd hw 26 rfl)) Via.refl e0 Fv (g := (mkF m 1 #[.val (.ref a)] [(.ref a)])) rfl rfl (hb hby d11_1)
  have G94 : Go p e below A0 (T93.setTop (mkF m 4 #[.val (.ref a)] [(.ref b)])) := fun tq kq => G92 tq (st93 _ kq)
  obtain ⟨cl95, Ar95, q95, S95, M95, H95⟩ := id Ab
  have G96 : Go p e below A0 (T93.setTop (mkF m 6 #[.val (.ref a)] [(.ref a), (.int z2)])) := fun tq kq => G94 tq (by
    refine X93.arraylength hx (by rw [e93]; exact Ar95.1) (State.isArrayOf_alike hZ.alike Ar95.2.1) (g := (mkF m 4 #[.val (.ref a)] [(.ref b)])) rfl rfl (hb hby d11_4) _ ?_
    rw [len_of S95 M95]
    show Steps p.tables e below (T93.setTop (mkF m 5 #[.val (.ref a)] [(.int z2)])) _
    refine XS.aloadN X93.here hx rfl (hb hby d11_5) rfl rfl ?_
    exact kq)
  obtain ⟨cq97, kq97, q97a, q97b, q97c⟩ := isOf hZ e93 E
  obtain ⟨_, _, ⟨T97, L97, k97, n97⟩, -, X97, ⟨Lc97, hQ97, l97, y97, z97⟩, st97⟩ := X93.virtualBack hx (y := (⟨"java/lang/String", "coder", "()B"⟩ : MethodName)) (z := (⟨"java/lang/String", "coder", "()B"⟩ : MethodName)) hown (mvT hZ (wd hw 56 rfl)) (mvT hZ (wd hw 57 rfl)) (notFace_of_selects (args := #[]) (mvT hZ (wd hw 59 rfl))) (mvT hZ (wd hw 59 rfl)) (mvT hZ (wd hw 58 rfl)) (by decide) (backOf (W := 1) (rmCo1 l Z a0 hw [] a cs h0 n0 Z0 E Fc hCS hcs hold) hZ (wd hw 60 rfl) (wd hw 8 rfl) (by decide) (by decide)) q97a q97c (g := (mkF m 6 #[.val (.ref a)] [(.ref a), (.int z2)])) rfl (by rw [hml]; rfl) (Steps.refl _) (argsL := []) (rest := [(.int z2)]) (lenOf pd_5 rfl) rfl (by show 2 * 0 + _ ≤ _; exact Nat.le_of_eq rfl) (hb hby d11_6) (fun _ _ => ⟨rfl, e93, (by decide : 0 + 0 ≤ _), (by decide : 0 + 0 ≤ _)⟩)
  dsimp only [Pt.U, Pt.locs, Pt.cells, Pt.slots] at X97 l97 y97 z97 st97 hQ97
  obtain rfl : k97 = 0 := y97
  obtain rfl : n97 = 0 := z97
  obtain ⟨rfl, N97q, e97⟩ := hQ97
  have N97 : Fr n0 L97 := by rw [l97]; exact Fr.app N0 N97q
  have G98 : Go p e below A0 (T97.setTop (mkF m 9 #[.val (.ref a)] [(.int 1), (.int z2)])) := fun tq kq => G96 tq (st97.trans kq)
  have G99 : Go p e below A0 (T97.setTop (mkF m 10 #[.val (.ref a)] [(.int n_)])) := fun tq kq => G98 tq (by
    refine XS.ishr X97.here hx rfl (hb hby d11_9) rfl ?_
    show Steps p.tables e below (T97.setTop (mkF m 10 #[.val (.ref a)] [(.int (z2 >>> ((1 : Int32) &&& 31)))])) _
    rw [show (z2 >>> ((1 : Int32) &&& 31)) = n_ from (own_half hz2)]
    show Steps p.tables e below (T97.setTop (mkF m 10 #[.val (.ref a)] [(.int n_)])) _
    exact kq)
  obtain ⟨fs, hr, hrun, hended, hW, hsame⟩ := X97.leave (v := some (.int n_)) (fun h => by rw [Bd.returns] at h; cases h)
  refine ⟨_, _, (by rw [← hA0]; exact G99 _ (retOut X97 hx (t := .int) Bd.returns rfl (Or.inl ⟨rfl, Or.inl rfl, _, rfl⟩) (hb hby d11_10) hr)), hrun, hended, _, _, rfl, ?_, ⟨_, rfl⟩, hW, hsame.mono (by decide) (by decide)⟩
  exact ⟨rfl, N97, e97⟩
set_option maxRecDepth 65536 in
set_option maxHeartbeats 40000000 in
theorem rmIEU (l : Launch) (Z : State) (a0 : Array Value) (hw : ∀ d ∈ tables_1, d.before a0 Z = true) (ws : List Jvm.Cond) (a b : Addr) (kb : ClassId) (cf : Nat → Int32) (n_ z2 : Int32) (cs : Int32) (fo : Value) (h0 : Heap) (n0 : Nat) (Z0 : n0 ≤ h0.size) (E : Exa Z h0 a "java/lang/String") (Fv : Fld Z h0 a "java/lang/String" "value" "[B" (.ref b)) (Fc : Fld Z h0 a "java/lang/String" "coder" "B" (.int 1)) (Ab : Af Z h0 b kb .byte z2 (fun j => .int (own_ub cf j))) (hne : ¬ z2 = (0 : Int32)) (hCS : Sta Z Z.heap "java/lang/String" "COMPACT_STRINGS" "Z" (.int cs)) (hcs : ¬ cs = (0 : Int32)) (hSF : Sta Z Z.heap "jdk/internal/util/Preconditions" "SIOOBE_FORMATTER" "Ljava/util/function/BiFunction;" fo) (hfo : fo.isRef = true) (hAD : Sta Z Z.heap "java/lang/StringUTF16" "$assertionsDisabled" "Z" (.int 1)) (hHI : Sta Z Z.heap "java/lang/StringUTF16" "HI_BYTE_SHIFT" "I" (.int 0)) (hLO : Sta Z Z.heap "java/lang/StringUTF16" "LO_BYTE_SHIFT" "I" (.int 8)) (hold : Old Z n0 h0) :
    MetFree l (⟨"java/lang/String", "isEmpty", "()Z"⟩ : MethodName) (head1 (Jvm.Cond.code (⟨"java/lang/String", "isEmpty", "()Z"⟩ : MethodName) jdk_42_method_55_code 1 (some .boolean) :: ws) (Rm 0 0 0 0)) (fun aa UU => aa = #[(.ref a)] ∧ Z.Warmed39 UU.vm ∧ UU.heap = h0) (fun _ _ _ _ _ => True) (fun _ UU oo U' => ∃ v L, oo = .returned v ∧ Qr (.int 0) h0 n0 v U'.heap L ∧ FrameEnd UU oo U' L (Rm 0 0 0 0).cells (Rm 0 0 0 0).slots) := by
  refine MetFree.of_bodySF (plainFor_of_name pn_1) hisR ?_
  intro p e s m args below meth c s₁ Bd hml0 hP hK
  obtain ⟨rfl, hZ, hh⟩ := hP
  have hx := Bd.exec
  have hby := Bd.bytes
  have hml : c.maxLocals = 1 := hml0
  have hown : s.vm.findClass "java/lang/String" = some m.cls := findClass_of_methodNamed Bd.named
  have hnm := (name_of_methodNamed Bd.named Bd.method).1
  have X0 : Stand p l e (Rm 0 0 0 0) s m #[(.ref a)] below meth c s₁ [] 0 0 := Stand.of_body Bd
  have e0 : s₁.heap = h0 := by rw [← hh, Bd.state]; rfl
  have N0 := Fr.nil n0
  obtain ⟨A0, hA0⟩ : ∃ A, A = s₁.setTop (entryFrame m #[(.ref a)] 1) := ⟨_, rfl⟩
  have G0 : Go p e below A0 (s₁.setTop (mkF m 0 #[.val (.ref a)] [])) := fun tq kq => by rw [hA0]; exact castTop (ef_rmIEU m a) kq
  have G100 : Go p e below A0 (s₁.setTop (mkF m 1 #[.val (.ref a)] [(.ref a)])) := fun tq kq => G0 tq (by
    refine XS.aloadN X0.here hx rfl (hb hby d6_0) rfl rfl ?_
    exact kq)
  obtain ⟨T101, X101, e101, st101⟩ := getF X0 hx hZ hown (host := "") (Or.inl (wd hw 26 rfl)) Via.refl e0 Fv (g := (mkF m 1 #[.val (.ref a)] [(.ref a)])) rfl rfl (hb hby d6_1)
  have G102 : Go p e below A0 (T101.setTop (mkF m 4 #[.val (.ref a)] [(.ref b)])) := fun tq kq => G100 tq (st101 _ kq)
  obtain ⟨cl103, Ar103, q103, S103, M103, H103⟩ := id Ab
  have G104 : Go p e below A0 (T101.setTop (mkF m 13 #[.val (.ref a)] [(.int 0)])) := fun tq kq => G102 tq (by
    refine X101.arraylength hx (by rw [e101]; exact Ar103.1) (State.isArrayOf_alike hZ.alike Ar103.2.1) (g := (mkF m 4 #[.val (.ref a)] [(.ref b)])) rfl rfl (hb hby d6_4) _ ?_
    rw [len_of S103 M103]
    show Steps p.tables e below (T101.setTop (mkF m 5 #[.val (.ref a)] [(.int z2)])) _
    refine XS.ifYes X101.here hx rfl (pc0 := 5) (pc' := 12) rfl (hb hby d6_5) rfl ((if0 _ _).trans (feq hne).2) (by decide) (by decide) ?_
    refine XS.iconst X101.here hx rfl (hb hby d6_12) ?_
    exact kq)
  obtain ⟨fs, hr, hrun, hended, hW, hsame⟩ := X101.leave (v := some (.int (nar .boolean (0 : Int32)))) (fun h => by rw [Bd.returns] at h; cases h)
  refine ⟨_, _, (by rw [← hA0]; exact G104 _ (retN X101 hx (t := .boolean) Bd.returns (by simp) (hb hby d6_13) hr)), hrun, hended, _, _, rfl, ?_, ⟨_, rfl⟩, hW, hsame.mono (by decide) (by decide)⟩
  exact ⟨rfl, N0, e101⟩
set_option maxRecDepth 65536 in
set_option maxHeartbeats 40000000 in
theorem rmCAU (l : Launch) (Z : State) (a0 : Array Value) (hw : ∀ d ∈ tables_1, d.before a0 Z = true) (ws : List Jvm.Cond) (a b : Addr) (kb : ClassId) (cf : Nat → Int32) (i_ n_ z2 : Int32) (cs : Int32) (fo : Value) (h0 : Heap) (n0 : Nat) (Z0 : n0 ≤ h0.size) (E : Exa Z h0 a "java/lang/String") (Fv : Fld Z h0 a "java/lang/String" "value" "[B" (.ref b)) (Fc : Fld Z h0 a "java/lang/String" "coder" "B" (.int 1)) (Ab : Af Z h0 b kb .byte z2 (fun j => .int (own_ub cf j))) (hz2 : own_dbl n_ z2) (hi : ¬ i_ < (0 : Int32) ∧ i_ < n_) (hR : own_R (cf (i_).toNatClampNeg)) (hCS : Sta Z Z.heap "java/lang/String" "COMPACT_STRINGS" "Z" (.int cs)) (hcs : ¬ cs = (0 : Int32)) (hSF : Sta Z Z.heap "jdk/internal/util/Preconditions" "SIOOBE_FORMATTER" "Ljava/util/function/BiFunction;" fo) (hfo : fo.isRef = true) (hAD : Sta Z Z.heap "java/lang/StringUTF16" "$assertionsDisabled" "Z" (.int 1)) (hHI : Sta Z Z.heap "java/lang/StringUTF16" "HI_BYTE_SHIFT" "I" (.int 0)) (hLO : Sta Z Z.heap "java/lang/StringUTF16" "LO_BYTE_SHIFT" "I" (.int 8)) (hold : Old Z n0 h0) :
    MetFree l (⟨"java/lang/String", "charAt", "(I)C"⟩ : MethodName) (head1 (Jvm.Cond.code (⟨"java/lang/String", "charAt", "(I)C"⟩ : MethodName) jdk_42_method_56_code 2 (some .char) :: ws) (Rm 4 0 0 53)) (fun aa UU => aa = #[(.ref a), (.int i_)] ∧ Z.Warmed39 UU.vm ∧ UU.heap = h0) (fun _ _ _ _ _ => True) (fun _ UU oo U' => ∃ v L, oo = .returned v ∧ Qr (.int (cf (i_).toNatClampNeg)) h0 n0 v U'.heap L ∧ FrameEnd UU oo U' L (Rm 4 0 0 53).cells (Rm 4 0 0 53).slots) := by
  refine MetFree.of_bodySF (plainFor_of_name pn_1) hisR ?_
  intro p e s m args below meth c s₁ Bd hml0 hP hK
  obtain ⟨rfl, hZ, hh⟩ := hP
  have hx := Bd.exec
  have hby := Bd.bytes
  have hml : c.maxLocals = 2 := hml0
  have hown : s.vm.findClass "java/lang/String" = some m.cls := findClass_of_methodNamed Bd.named
  have hnm := (name_of_methodNamed Bd.named Bd.method).1
  have X0 : Stand p l e (Rm 4 0 0 53) s m #[(.ref a), (.int i_)] below meth c s₁ [] 0 0 := Stand.of_body Bd
  have e0 : s₁.heap = h0 := by rw [← hh, Bd.state]; rfl
  have N0 := Fr.nil n0
  obtain ⟨A0, hA0⟩ : ∃ A, A = s₁.setTop (entryFrame m #[(.ref a), (.int i_)] 2) := ⟨_, rfl⟩
  have G0 : Go p e below A0 (s₁.setTop (mkF m 0 #[.val (.ref a), .val (.int i_)] [])) := fun tq kq => by rw [hA0]; exact castTop (ef_rmCAU m a i_) kq
  have G105 : Go p e below A0 (s₁.setTop (mkF m 1 #[.val (.ref a), .val (.int i_)] [(.ref a)])) := fun tq kq => G0 tq (by
    refine XS.aloadN X0.here hx rfl (hb hby d13_0) rfl rfl ?_
    exact kq)
  obtain ⟨cq106, kq106, q106a, q106b, q106c⟩ := isOf hZ e0 E
  obtain ⟨_, _, ⟨T106, L106, k106, n106⟩, -, X106, ⟨Lc106, hQ106, l106, y106, z106⟩, st106⟩ := X0.virtualBack hx (y := (⟨"java/lang/String", "isLatin1", "()Z"⟩ : MethodName)) (z := (⟨"java/lang/String", "isLatin1", "()Z"⟩ : MethodName)) hown (mvT hZ (wd hw 66 rfl)) (mvT hZ (wd hw 67 rfl)) (notFace_of_selects (args := #[]) (mvT hZ (wd hw 69 rfl))) (mvT hZ (wd hw 69 rfl)) (mvT hZ (wd hw 68 rfl)) (by decide) (backOf (W := 0) (rmIL1 l Z a0 hw [] a cs h0 n0 Z0 E Fc hCS hcs hold) hZ (wd hw 70 rfl) (wd hw 8 rfl) (by decide) (by decide)) q106a q106c (g := (mkF m 1 #[.val (.ref a), .val (.int i_)] [(.ref a)])) rfl (by rw [hml]; rfl) (Steps.refl _) (argsL := []) (rest := []) (lenOf pd_6 rfl) rfl (by show 2 * 0 + _ ≤ _; exact Nat.le_of_eq rfl) (hb hby d13_1) (fun _ _ => ⟨rfl, e0, (by decide : 0 + 0 ≤ _), (by decide : 0 + 0 ≤ _)⟩)
  dsimp only [Pt.U, Pt.locs, Pt.cells, Pt.slots] at X106 l106 y106 z106 st106 hQ106
  obtain rfl : k106 = 0 := y106
  obtain rfl : n106 = 0 := z106
  obtain ⟨rfl, N106q, e106⟩ := hQ106
  have N106 : Fr n0 L106 := by rw [l106]; exact Fr.app N0 N106q
  have G107 : Go p e below A0 (T106.setTop (mkF m 4 #[.val (.ref a), .val (.int i_)] [(.int 0)])) := fun tq kq => G105 tq (st106.trans kq)
  have G108 : Go p e below A0 (T106.setTop (mkF m 17 #[.val (.ref a), .val (.int i_)] [(.ref a)])) := fun tq kq => G107 tq (by
    refine XS.ifYes X106.here hx rfl (pc0 := 4) (pc' := 16) rfl (hb hby d13_4) rfl (by decide) (by decide) (by decide) ?_
    refine XS.aloadN X106.here hx rfl (hb hby d13_16) rfl rfl ?_
    exact kq)
  obtain ⟨T109, X109, e109, st109⟩ := getF X106 hx hZ hown (host := "") (Or.inl (wd hw 26 rfl)) Via.refl e106 Fv (g := (mkF m 17 #[.val (.ref a), .val (.int i_)] [(.ref a)])) rfl rfl (hb hby d13_17)
  have G110 : Go p e below A0 (T109.setTop (mkF m 20 #[.val (.ref a), .val (.int i_)] [(.ref b)])) := fun tq kq => G108 tq (st109 _ kq)
  have G111 : Go p e below A0 (T109.setTop (mkF m 21 #[.val (.ref a), .val (.int i_)] [(.int i_), (.ref b)])) := fun tq kq => G110 tq (by
    refine XS.iloadN X109.here hx rfl (hb hby d13_20) rfl ?_
    exact kq)
  obtain ⟨_, _, ⟨T112, L112, k112, n112⟩, -, X112, ⟨Lc112, hQ112, l112, y112, z112⟩, st112⟩ := Jvm.LawKit.callS X109 hx (y := (⟨"java/lang/StringUTF16", "charAt", "([BI)C"⟩ : MethodName)) hown (mvT hZ (wd hw 121 rfl)) (mvT hZ (wd hw 122 rfl)) (mvT hZ (wd hw 40 rfl)) (mvT hZ (wd hw 123 rfl)) (by decide) (backOf (W := 0) (rmUC l Z a0 hw [] b kb cf i_ n_ z2 cs fo h0 n0 Z0 Ab hz2 hi hR  hCS hcs hSF hfo hAD hHI hLO hold) hZ (wd hw 123 rfl) (wd hw 40 rfl) (by decide) (by decide)) (g := (mkF m 21 #[.val (.ref a), .val (.int i_)] [(.int i_), (.ref b)])) rfl (by rw [hml]; rfl) (argsL := [(.ref b), (.int i_)]) (rest := []) (lenOf pd_4 rfl) rfl (by show 2 * 0 + _ ≤ _; exact Nat.le_of_eq rfl) (hb hby d13_21) (fun _ _ => ⟨rfl, e109, (by decide : 0 + 0 ≤ _), (by decide : 0 + 0 ≤ _)⟩)
  dsimp only [Pt.U, Pt.locs, Pt.cells, Pt.slots] at X112 l112 y112 z112 st112 hQ112
  obtain rfl : k112 = 0 := y112
  obtain rfl : n112 = 0 := z112
  obtain ⟨rfl, N112q, e112⟩ := hQ112
  have N112 : Fr n0 L112 := by rw [l112]; exact Fr.app N106 N112q
  have G113 : Go p e below A0 (T112.setTop (mkF m 24 #[.val (.ref a), .val (.int i_)] [(.int (cf (i_).toNatClampNeg))])) := fun tq kq => G111 tq (st112 _ kq)
  obtain ⟨fs, hr, hrun, hended, hW, hsame⟩ := X112.leave (v := some (.int (nar .char (cf (i_).toNatClampNeg)))) (fun h => by rw [Bd.returns] at h; cases h)
  refine ⟨_, _, (by rw [← hA0]; exact G113 _ (retN X112 hx (t := .char) Bd.returns (by simp) (hb hby d13_24) hr)), hrun, hended, _, _, rfl, ?_, ⟨_, rfl⟩, hW, hsame.mono (by decide) (by decide)⟩
  exact ⟨(by rw [own_nC hR]), N112, e112⟩
set_option maxRecDepth 65536 in
set_option maxHeartbeats 40000000 in
theorem rmIE0 (l : Launch) (Z : State) (a0 : Array Value) (hw : ∀ d ∈ tables_1, d.before a0 Z = true) (ws : List Jvm.Cond) (a b : Addr) (kb : ClassId) (cs : Int32) (fo : Value) (h0 : Heap) (n0 : Nat) (Z0 : n0 ≤ h0.size) (E : Exa Z h0 a "java/lang/String") (Fv : Fld Z h0 a "java/lang/String" "value" "[B" (.ref b)) (Ab : Arv Z h0 b kb .byte (0 : Int32) [] (.int 0)) (hCS : Sta Z Z.heap "java/lang/String" "COMPACT_STRINGS" "Z" (.int cs)) (hcs : ¬ cs = (0 : Int32)) (hSF : Sta Z Z.heap "jdk/internal/util/Preconditions" "SIOOBE_FORMATTER" "Ljava/util/function/BiFunction;" fo) (hfo : fo.isRef = true) (hAD : Sta Z Z.heap "java/lang/StringUTF16" "$assertionsDisabled" "Z" (.int 1)) (hHI : Sta Z Z.heap "java/lang/StringUTF16" "HI_BYTE_SHIFT" "I" (.int 0)) (hLO : Sta Z Z.heap "java/lang/StringUTF16" "LO_BYTE_SHIFT" "I" (.int 8)) (hold : Old Z n0 h0) :
    MetFree l (⟨"java/lang/String", "isEmpty", "()Z"⟩ : MethodName) (head1 (Jvm.Cond.code (⟨"java/lang/String", "isEmpty", "()Z"⟩ : MethodName) jdk_42_method_55_code 1 (some .boolean) :: ws) (Rm 0 0 0 0)) (fun aa UU => aa = #[(.ref a)] ∧ Z.Warmed39 UU.vm ∧ UU.heap = h0) (fun _ _ _ _ _ => True) (fun _ UU oo U' => ∃ v L, oo = .returned v ∧ Qr (.int 1) h0 n0 v U'.heap L ∧ FrameEnd UU oo U' L (Rm 0 0 0 0).cells (Rm 0 0 0 0).slots) := by
  refine MetFree.of_bodySF (plainFor_of_name pn_1) hisR ?_
  intro p e s m args below meth c s₁ Bd hml0 hP hK
  obtain ⟨rfl, hZ, hh⟩ := hP
  have hx := Bd.exec
  have hby := Bd.bytes
  have hml : c.maxLocals = 1 := hml0
  have hown : s.vm.findClass "java/lang/String" = some m.cls := findClass_of_methodNamed Bd.named
  have hnm := (name_of_methodNamed Bd.named Bd.method).1
  have X0 : Stand p l e (Rm 0 0 0 0) s m #[(.ref a)] below meth c s₁ [] 0 0 := Stand.of_body Bd
  have e0 : s₁.heap = h0 := by rw [← hh, Bd.state]; rfl
  have N0 := Fr.nil n0
  obtain ⟨A0, hA0⟩ : ∃ A, A = s₁.setTop (entryFrame m #[(.ref a)] 1) := ⟨_, rfl⟩
  have G0 : Go p e below A0 (s₁.setTop (mkF m 0 #[.val (.ref a)] [])) := fun tq kq => by rw [hA0]; exact castTop (ef_rmIE0 m a) kq
  have G114 : Go p e below A0 (s₁.setTop (mkF m 1 #[.val (.ref a)] [(.ref a)])) := fun tq kq => G0 tq (by
    refine XS.aloadN X0.here hx rfl (hb hby d6_0) rfl rfl ?_
    exact kq)
  obtain ⟨T115, X115, e115, st115⟩ := getF X0 hx hZ hown (host := "") (Or.inl (wd hw 26 rfl)) Via.refl e0 Fv (g := (mkF m 1 #[.val (.ref a)] [(.ref a)])) rfl rfl (hb hby d6_1)
  have G116 : Go p e below A0 (T115.setTop (mkF m 4 #[.val (.ref a)] [(.ref b)])) := fun tq kq => G114 tq (st115 _ kq)
  obtain ⟨cl117, Ar117, q117, S117, M117, H117, Gf117⟩ := id Ab
  have G118 : Go p e below A0 (T115.setTop (mkF m 13 #[.val (.ref a)] [(.int 1)])) := fun tq kq => G116 tq (by
    refine X115.arraylength hx (by rw [e115]; exact Ar117.1) (State.isArrayOf_alike hZ.alike Ar117.2.1) (g := (mkF m 4 #[.val (.ref a)] [(.ref b)])) rfl rfl (hb hby d6_4) _ ?_
    rw [len_of S117 M117]
    show Steps p.tables e below (T115.setTop (mkF m 5 #[.val (.ref a)] [(.int 0)])) _
    refine XS.ifNo X115.here hx rfl (hb hby d6_5) rfl (by decide) ?_
    refine XS.iconst X115.here hx rfl (hb hby d6_8) ?_
    refine XS.goto X115.here hx rfl (pc0 := 9) (pc' := 13) rfl (hb hby d6_9) (by decide) (by decide) ?_
    exact kq)
  obtain ⟨fs, hr, hrun, hended, hW, hsame⟩ := X115.leave (v := some (.int (nar .boolean (1 : Int32)))) (fun h => by rw [Bd.returns] at h; cases h)
  refine ⟨_, _, (by rw [← hA0]; exact G118 _ (retN X115 hx (t := .boolean) Bd.returns (by simp) (hb hby d6_13) hr)), hrun, hended, _, _, rfl, ?_, ⟨_, rfl⟩, hW, hsame.mono (by decide) (by decide)⟩
  exact ⟨rfl, N0, e115⟩
set_option maxRecDepth 65536 in
set_option maxHeartbeats 40000000 in
theorem rmLD (l : Launch) (Z : State) (a0 : Array Value) (hw : ∀ d ∈ tables_1, d.before a0 Z = true) (ws : List Jvm.Cond) (uc : Int32) (h0 : Heap) (n0 : Nat) (Z0 : n0 ≤ h0.size) :
    MetFree l (⟨"com/example/role_delegation/roledelegation/Names", "isLetterOrDigit", "(C)Z"⟩ : MethodName) (head1 (Jvm.Cond.code (⟨"com/example/role_delegation/roledelegation/Names", "isLetterOrDigit", "(C)Z"⟩ : MethodName) prog_38_method_3_code 1 (some .boolean) :: ws) (Rm 0 0 0 0)) (fun aa UU => aa = #[(.int uc)] ∧ Z.Warmed39 UU.vm ∧ UU.heap = h0) (fun _ _ _ _ _ => True) (fun _ UU oo U' => ∃ v L, oo = .returned v ∧ Qr (.int (own_b (own_ld uc))) h0 n0 v U'.heap L ∧ FrameEnd UU oo U' L (Rm 0 0 0 0).cells (Rm 0 0 0 0).slots) := by
  refine MetFree.of_bodySF (plainFor_of_name pn_4) hisR ?_
  intro p e s m args below meth c s₁ Bd hml0 hP hK
  obtain ⟨rfl, hZ, hh⟩ := hP
  have hx := Bd.exec
  have hby := Bd.bytes
  have hml : c.maxLocals = 1 := hml0
  have hown : s.vm.findClass "com/example/role_delegation/roledelegation/Names" = some m.cls := findClass_of_methodNamed Bd.named
  have hnm := (name_of_methodNamed Bd.named Bd.method).1
  have X0 : Stand p l e (Rm 0 0 0 0) s m #[(.int uc)] below meth c s₁ [] 0 0 := Stand.of_body Bd
  have e0 : s₁.heap = h0 := by rw [← hh, Bd.state]; rfl
  have N0 := Fr.nil n0
  obtain ⟨A0, hA0⟩ : ∃ A, A = s₁.setTop (entryFrame m #[(.int uc)] 1) := ⟨_, rfl⟩
  have G0 : Go p e below A0 (s₁.setTop (mkF m 0 #[.val (.int uc)] [])) := fun tq kq => by rw [hA0]; exact castTop (ef_rmLD m uc) kq
  have G119 : Go p e below A0 (s₁.setTop (mkF m 3 #[.val (.int uc)] [(.int 97), (.int uc)])) := fun tq kq => G0 tq (by
    refine XS.iloadN X0.here hx rfl (hb hby d18_0) rfl ?_
    refine XS.bipush X0.here hx rfl (hb hby d18_1) ?_
    exact kq)
  by_cases hc120 : uc < (97 : Int32)
  · have G121 : Go p e below A0 (s₁.setTop (mkF m 15 #[.val (.int uc)] [(.int 65), (.int uc)])) := fun tq kq => G119 tq (by
      refine XS.icmpYes X0.here hx rfl (pc0 := 3) (pc' := 12) rfl (hb hby d18_3) rfl (tlt hc120).1 (by decide) (by decide) ?_
      refine XS.iloadN X0.here hx rfl (hb hby d18_12) rfl ?_
      refine XS.bipush X0.here hx rfl (hb hby d18_13) ?_
      exact kq)
    by_cases hc122 : uc < (65 : Int32)
    · have G123 : Go p e below A0 (s₁.setTop (mkF m 27 #[.val (.int uc)] [(.int 48), (.int uc)])) := fun tq kq => G121 tq (by
        refine XS.icmpYes X0.here hx rfl (pc0 := 15) (pc' := 24) rfl (hb hby d18_15) rfl (tlt hc122).1 (by decide) (by decide) ?_
        refine XS.iloadN X0.here hx rfl (hb hby d18_24) rfl ?_
        refine XS.bipush X0.here hx rfl (hb hby d18_25) ?_
        exact kq)
      by_cases hc124 : uc < (48 : Int32)
      · have G125 : Go p e below A0 (s₁.setTop (mkF m 41 #[.val (.int uc)] [(.int 0)])) := fun tq kq => G123 tq (by
          refine XS.icmpYes X0.here hx rfl (pc0 := 27) (pc' := 40) rfl (hb hby d18_27) rfl (tlt hc124).1 (by decide) (by decide) ?_
          refine XS.iconst X0.here hx rfl (hb hby d18_40) ?_
          exact kq)
        obtain ⟨fs, hr, hrun, hended, hW, hsame⟩ := X0.leave (v := some (.int (nar .boolean (0 : Int32)))) (fun h => by rw [Bd.returns] at h; cases h)
        refine ⟨_, _, (by rw [← hA0]; exact G125 _ (retN X0 hx (t := .boolean) Bd.returns (by simp) (hb hby d18_41) hr)), hrun, hended, _, _, rfl, ?_, ⟨_, rfl⟩, hW, hsame.mono (by decide) (by decide)⟩
        exact ⟨(by rw [show own_b (own_ld uc) = (0 : Int32) from by simp only [own_b, own_ld, hc120, hc122, hc124, not_true_eq_false, not_false_eq_true, if_true, if_false, or_true, true_or, or_false, false_or, and_true, true_and, and_false, false_and, and_self, or_self]]; rfl), N0, e0⟩
      · have G126 : Go p e below A0 (s₁.setTop (mkF m 33 #[.val (.int uc)] [(.int 57), (.int uc)])) := fun tq kq => G123 tq (by
          refine XS.icmpNo X0.here hx rfl (hb hby d18_27) rfl (flt hc124).1 ?_
          refine XS.iloadN X0.here hx rfl (hb hby d18_30) rfl ?_
          refine XS.bipush X0.here hx rfl (hb hby d18_31) ?_
          exact kq)
        by_cases hc127 : (57 : Int32) < uc
        · have G128 : Go p e below A0 (s₁.setTop (mkF m 41 #[.val (.int uc)] [(.int 0)])) := fun tq kq => G126 tq (by
            refine XS.icmpYes X0.here hx rfl (pc0 := 33) (pc' := 40) rfl (hb hby d18_33) rfl (tlt hc127).2.2.1 (by decide) (by decide) ?_
            refine XS.iconst X0.here hx rfl (hb hby d18_40) ?_
            exact kq)
          obtain ⟨fs, hr, hrun, hended, hW, hsame⟩ := X0.leave (v := some (.int (nar .boolean (0 : Int32)))) (fun h => by rw [Bd.returns] at h; cases h)
          refine ⟨_, _, (by rw [← hA0]; exact G128 _ (retN X0 hx (t := .boolean) Bd.returns (by simp) (hb hby d18_41) hr)), hrun, hended, _, _, rfl, ?_, ⟨_, rfl⟩, hW, hsame.mono (by decide) (by decide)⟩
          exact ⟨(by rw [show own_b (own_ld uc) = (0 : Int32) from by simp only [own_b, own_ld, hc120, hc122, hc124, hc127, not_true_eq_false, not_false_eq_true, if_true, if_false, or_true, true_or, or_false, false_or, and_true, true_and, and_false, false_and, and_self, or_self]]; rfl), N0, e0⟩
        · have G129 : Go p e below A0 (s₁.setTop (mkF m 41 #[.val (.int uc)] [(.int 1)])) := fun tq kq => G126 tq (by
            refine XS.icmpNo X0.here hx rfl (hb hby d18_33) rfl (flt hc127).2.2.1 ?_
            refine XS.iconst X0.here hx rfl (hb hby d18_36) ?_
            refine XS.goto X0.here hx rfl (pc0 := 37) (pc' := 41) rfl (hb hby d18_37) (by decide) (by decide) ?_
            exact kq)
          obtain ⟨fs, hr, hrun, hended, hW, hsame⟩ := X0.leave (v := some (.int (nar .boolean (1 : Int32)))) (fun h => by rw [Bd.returns] at h; cases h)
          refine ⟨_, _, (by rw [← hA0]; exact G129 _ (retN X0 hx (t := .boolean) Bd.returns (by simp) (hb hby d18_41) hr)), hrun, hended, _, _, rfl, ?_, ⟨_, rfl⟩, hW, hsame.mono (by decide) (by decide)⟩
          exact ⟨(by rw [show own_b (own_ld uc) = (1 : Int32) from by simp only [own_b, own_ld, hc120, hc122, hc124, hc127, not_true_eq_false, not_false_eq_true, if_true, if_false, or_true, true_or, or_false, false_or, and_true, true_and, and_false, false_and, and_self, or_self]]; rfl), N0, e0⟩
    · have G130 : Go p e below A0 (s₁.setTop (mkF m 21 #[.val (.int uc)] [(.int 90), (.int uc)])) := fun tq kq => G121 tq (by
        refine XS.icmpNo X0.here hx rfl (hb hby d18_15) rfl (flt hc122).1 ?_
        refine XS.iloadN X0.here hx rfl (hb hby d18_18) rfl ?_
        refine XS.bipush X0.here hx rfl (hb hby d18_19) ?_
        exact kq)
      by_cases hc131 : (90 : Int32) < uc
      · have G132 : Go p e below A0 (s₁.setTop (mkF m 27 #[.val (.int uc)] [(.int 48), (.int uc)])) := fun tq kq => G130 tq (by
          refine XS.icmpNo X0.here hx rfl (hb hby d18_21) rfl (tlt hc131).2.2.2 ?_
          refine XS.iloadN X0.here hx rfl (hb hby d18_24) rfl ?_
          refine XS.bipush X0.here hx rfl (hb hby d18_25) ?_
          exact kq)
        by_cases hc133 : uc < (48 : Int32)
        · have G134 : Go p e below A0 (s₁.setTop (mkF m 41 #[.val (.int uc)] [(.int 0)])) := fun tq kq => G132 tq (by
            refine XS.icmpYes X0.here hx rfl (pc0 := 27) (pc' := 40) rfl (hb hby d18_27) rfl (tlt hc133).1 (by decide) (by decide) ?_
            refine XS.iconst X0.here hx rfl (hb hby d18_40) ?_
            exact kq)
          obtain ⟨fs, hr, hrun, hended, hW, hsame⟩ := X0.leave (v := some (.int (nar .boolean (0 : Int32)))) (fun h => by rw [Bd.returns] at h; cases h)
          refine ⟨_, _, (by rw [← hA0]; exact G134 _ (retN X0 hx (t := .boolean) Bd.returns (by simp) (hb hby d18_41) hr)), hrun, hended, _, _, rfl, ?_, ⟨_, rfl⟩, hW, hsame.mono (by decide) (by decide)⟩
          exact ⟨(by rw [show own_b (own_ld uc) = (0 : Int32) from by simp only [own_b, own_ld, hc120, hc122, hc131, hc133, not_true_eq_false, not_false_eq_true, if_true, if_false, or_true, true_or, or_false, false_or, and_true, true_and, and_false, false_and, and_self, or_self]]; rfl), N0, e0⟩
        · have G135 : Go p e below A0 (s₁.setTop (mkF m 33 #[.val (.int uc)] [(.int 57), (.int uc)])) := fun tq kq => G132 tq (by
            refine XS.icmpNo X0.here hx rfl (hb hby d18_27) rfl (flt hc133).1 ?_
            refine XS.iloadN X0.here hx rfl (hb hby d18_30) rfl ?_
            refine XS.bipush X0.here hx rfl (hb hby d18_31) ?_
            exact kq)
          by_cases hc136 : (57 : Int32) < uc
          · have G137 : Go p e below A0 (s₁.setTop (mkF m 41 #[.val (.int uc)] [(.int 0)])) := fun tq kq => G135 tq (by
              refine XS.icmpYes X0.here hx rfl (pc0 := 33) (pc' := 40) rfl (hb hby d18_33) rfl (tlt hc136).2.2.1 (by decide) (by decide) ?_
              refine XS.iconst X0.here hx rfl (hb hby d18_40) ?_
              exact kq)
            obtain ⟨fs, hr, hrun, hended, hW, hsame⟩ := X0.leave (v := some (.int (nar .boolean (0 : Int32)))) (fun h => by rw [Bd.returns] at h; cases h)
            refine ⟨_, _, (by rw [← hA0]; exact G137 _ (retN X0 hx (t := .boolean) Bd.returns (by simp) (hb hby d18_41) hr)), hrun, hended, _, _, rfl, ?_, ⟨_, rfl⟩, hW, hsame.mono (by decide) (by decide)⟩
            exact ⟨(by rw [show own_b (own_ld uc) = (0 : Int32) from by simp only [own_b, own_ld, hc120, hc122, hc131, hc133, hc136, not_true_eq_false, not_false_eq_true, if_true, if_false, or_true, true_or, or_false, false_or, and_true, true_and, and_false, false_and, and_self, or_self]]; rfl), N0, e0⟩
          · have G138 : Go p e below A0 (s₁.setTop (mkF m 41 #[.val (.int uc)] [(.int 1)])) := fun tq kq => G135 tq (by
              refine XS.icmpNo X0.here hx rfl (hb hby d18_33) rfl (flt hc136).2.2.1 ?_
              refine XS.iconst X0.here hx rfl (hb hby d18_36) ?_
              refine XS.goto X0.here hx rfl (pc0 := 37) (pc' := 41) rfl (hb hby d18_37) (by decide) (by decide) ?_
              exact kq)
            obtain ⟨fs, hr, hrun, hended, hW, hsame⟩ := X0.leave (v := some (.int (nar .boolean (1 : Int32)))) (fun h => by rw [Bd.returns] at h; cases h)
            refine ⟨_, _, (by rw [← hA0]; exact G138 _ (retN X0 hx (t := .boolean) Bd.returns (by simp) (hb hby d18_41) hr)), hrun, hended, _, _, rfl, ?_, ⟨_, rfl⟩, hW, hsame.mono (by decide) (by decide)⟩
            exact ⟨(by rw [show own_b (own_ld uc) = (1 : Int32) from by simp only [own_b, own_ld, hc120, hc122, hc131, hc133, hc136, not_true_eq_false, not_false_eq_true, if_true, if_false, or_true, true_or, or_false, false_or, and_true, true_and, and_false, false_and, and_self, or_self]]; rfl), N0, e0⟩
      · have G139 : Go p e below A0 (s₁.setTop (mkF m 41 #[.val (.int uc)] [(.int 1)])) := fun tq kq => G130 tq (by
          refine XS.icmpYes X0.here hx rfl (pc0 := 21) (pc' := 36) rfl (hb hby d18_21) rfl (flt hc131).2.2.2 (by decide) (by decide) ?_
          refine XS.iconst X0.here hx rfl (hb hby d18_36) ?_
          refine XS.goto X0.here hx rfl (pc0 := 37) (pc' := 41) rfl (hb hby d18_37) (by decide) (by decide) ?_
          exact kq)
        obtain ⟨fs, hr, hrun, hended, hW, hsame⟩ := X0.leave (v := some (.int (nar .boolean (1 : Int32)))) (fun h => by rw [Bd.returns] at h; cases h)
        refine ⟨_, _, (by rw [← hA0]; exact G139 _ (retN X0 hx (t := .boolean) Bd.returns (by simp) (hb hby d18_41) hr)), hrun, hended, _, _, rfl, ?_, ⟨_, rfl⟩, hW, hsame.mono (by decide) (by decide)⟩
        exact ⟨(by rw [show own_b (own_ld uc) = (1 : Int32) from by simp only [own_b, own_ld, hc120, hc122, hc131, not_true_eq_false, not_false_eq_true, if_true, if_false, or_true, true_or, or_false, false_or, and_true, true_and, and_false, false_and, and_self, or_self]]; rfl), N0, e0⟩
  · have G140 : Go p e below A0 (s₁.setTop (mkF m 9 #[.val (.int uc)] [(.int 122), (.int uc)])) := fun tq kq => G119 tq (by
      refine XS.icmpNo X0.here hx rfl (hb hby d18_3) rfl (flt hc120).1 ?_
      refine XS.iloadN X0.here hx rfl (hb hby d18_6) rfl ?_
      refine XS.bipush X0.here hx rfl (hb hby d18_7) ?_
      exact kq)
    by_cases hc141 : (122 : Int32) < uc
    · have G142 : Go p e below A0 (s₁.setTop (mkF m 15 #[.val (.int uc)] [(.int 65), (.int uc)])) := fun tq kq => G140 tq (by
        refine XS.icmpNo X0.here hx rfl (hb hby d18_9) rfl (tlt hc141).2.2.2 ?_
        refine XS.iloadN X0.here hx rfl (hb hby d18_12) rfl ?_
        refine XS.bipush X0.here hx rfl (hb hby d18_13) ?_
        exact kq)
      by_cases hc143 : uc < (65 : Int32)
      · have G144 : Go p e below A0 (s₁.setTop (mkF m 27 #[.val (.int uc)] [(.int 48), (.int uc)])) := fun tq kq => G142 tq (by
          refine XS.icmpYes X0.here hx rfl (pc0 := 15) (pc' := 24) rfl (hb hby d18_15) rfl (tlt hc143).1 (by decide) (by decide) ?_
          refine XS.iloadN X0.here hx rfl (hb hby d18_24) rfl ?_
          refine XS.bipush X0.here hx rfl (hb hby d18_25) ?_
          exact kq)
        by_cases hc145 : uc < (48 : Int32)
        · have G146 : Go p e below A0 (s₁.setTop (mkF m 41 #[.val (.int uc)] [(.int 0)])) := fun tq kq => G144 tq (by
            refine XS.icmpYes X0.here hx rfl (pc0 := 27) (pc' := 40) rfl (hb hby d18_27) rfl (tlt hc145).1 (by decide) (by decide) ?_
            refine XS.iconst X0.here hx rfl (hb hby d18_40) ?_
            exact kq)
          obtain ⟨fs, hr, hrun, hended, hW, hsame⟩ := X0.leave (v := some (.int (nar .boolean (0 : Int32)))) (fun h => by rw [Bd.returns] at h; cases h)
          refine ⟨_, _, (by rw [← hA0]; exact G146 _ (retN X0 hx (t := .boolean) Bd.returns (by simp) (hb hby d18_41) hr)), hrun, hended, _, _, rfl, ?_, ⟨_, rfl⟩, hW, hsame.mono (by decide) (by decide)⟩
          exact ⟨(by rw [show own_b (own_ld uc) = (0 : Int32) from by simp only [own_b, own_ld, hc120, hc141, hc143, hc145, not_true_eq_false, not_false_eq_true, if_true, if_false, or_true, true_or, or_false, false_or, and_true, true_and, and_false, false_and, and_self, or_self]]; rfl), N0, e0⟩
        · have G147 : Go p e below A0 (s₁.setTop (mkF m 33 #[.val (.int uc)] [(.int 57), (.int uc)])) := fun tq kq => G144 tq (by
            refine XS.icmpNo X0.here hx rfl (hb hby d18_27) rfl (flt hc145).1 ?_
            refine XS.iloadN X0.here hx rfl (hb hby d18_30) rfl ?_
            refine XS.bipush X0.here hx rfl (hb hby d18_31) ?_
            exact kq)
          by_cases hc148 : (57 : Int32) < uc
          · have G149 : Go p e below A0 (s₁.setTop (mkF m 41 #[.val (.int uc)] [(.int 0)])) := fun tq kq => G147 tq (by
              refine XS.icmpYes X0.here hx rfl (pc0 := 33) (pc' := 40) rfl (hb hby d18_33) rfl (tlt hc148).2.2.1 (by decide) (by decide) ?_
              refine XS.iconst X0.here hx rfl (hb hby d18_40) ?_
              exact kq)
            obtain ⟨fs, hr, hrun, hended, hW, hsame⟩ := X0.leave (v := some (.int (nar .boolean (0 : Int32)))) (fun h => by rw [Bd.returns] at h; cases h)
            refine ⟨_, _, (by rw [← hA0]; exact G149 _ (retN X0 hx (t := .boolean) Bd.returns (by simp) (hb hby d18_41) hr)), hrun, hended, _, _, rfl, ?_, ⟨_, rfl⟩, hW, hsame.mono (by decide) (by decide)⟩
            exact ⟨(by rw [show own_b (own_ld uc) = (0 : Int32) from by simp only [own_b, own_ld, hc120, hc141, hc143, hc145, hc148, not_true_eq_false, not_false_eq_true, if_true, if_false, or_true, true_or, or_false, false_or, and_true, true_and, and_false, false_and, and_self, or_self]]; rfl), N0, e0⟩
          · have G150 : Go p e below A0 (s₁.setTop (mkF m 41 #[.val (.int uc)] [(.int 1)])) := fun tq kq => G147 tq (by
              refine XS.icmpNo X0.here hx rfl (hb hby d18_33) rfl (flt hc148).2.2.1 ?_
              refine XS.iconst X0.here hx rfl (hb hby d18_36) ?_
              refine XS.goto X0.here hx rfl (pc0 := 37) (pc' := 41) rfl (hb hby d18_37) (by decide) (by decide) ?_
              exact kq)
            obtain ⟨fs, hr, hrun, hended, hW, hsame⟩ := X0.leave (v := some (.int (nar .boolean (1 : Int32)))) (fun h => by rw [Bd.returns] at h; cases h)
            refine ⟨_, _, (by rw [← hA0]; exact G150 _ (retN X0 hx (t := .boolean) Bd.returns (by simp) (hb hby d18_41) hr)), hrun, hended, _, _, rfl, ?_, ⟨_, rfl⟩, hW, hsame.mono (by decide) (by decide)⟩
            exact ⟨(by rw [show own_b (own_ld uc) = (1 : Int32) from by simp only [own_b, own_ld, hc120, hc141, hc143, hc145, hc148, not_true_eq_false, not_false_eq_true, if_true, if_false, or_true, true_or, or_false, false_or, and_true, true_and, and_false, false_and, and_self, or_self]]; rfl), N0, e0⟩
      · have G151 : Go p e below A0 (s₁.setTop (mkF m 21 #[.val (.int uc)] [(.int 90), (.int uc)])) := fun tq kq => G142 tq (by
          refine XS.icmpNo X0.here hx rfl (hb hby d18_15) rfl (flt hc143).1 ?_
          refine XS.iloadN X0.here hx rfl (hb hby d18_18) rfl ?_
          refine XS.bipush X0.here hx rfl (hb hby d18_19) ?_
          exact kq)
        by_cases hc152 : (90 : Int32) < uc
        · have G153 : Go p e below A0 (s₁.setTop (mkF m 27 #[.val (.int uc)] [(.int 48), (.int uc)])) := fun tq kq => G151 tq (by
            refine XS.icmpNo X0.here hx rfl (hb hby d18_21) rfl (tlt hc152).2.2.2 ?_
            refine XS.iloadN X0.here hx rfl (hb hby d18_24) rfl ?_
            refine XS.bipush X0.here hx rfl (hb hby d18_25) ?_
            exact kq)
          by_cases hc154 : uc < (48 : Int32)
          · have G155 : Go p e below A0 (s₁.setTop (mkF m 41 #[.val (.int uc)] [(.int 0)])) := fun tq kq => G153 tq (by
              refine XS.icmpYes X0.here hx rfl (pc0 := 27) (pc' := 40) rfl (hb hby d18_27) rfl (tlt hc154).1 (by decide) (by decide) ?_
              refine XS.iconst X0.here hx rfl (hb hby d18_40) ?_
              exact kq)
            obtain ⟨fs, hr, hrun, hended, hW, hsame⟩ := X0.leave (v := some (.int (nar .boolean (0 : Int32)))) (fun h => by rw [Bd.returns] at h; cases h)
            refine ⟨_, _, (by rw [← hA0]; exact G155 _ (retN X0 hx (t := .boolean) Bd.returns (by simp) (hb hby d18_41) hr)), hrun, hended, _, _, rfl, ?_, ⟨_, rfl⟩, hW, hsame.mono (by decide) (by decide)⟩
            exact ⟨(by rw [show own_b (own_ld uc) = (0 : Int32) from by simp only [own_b, own_ld, hc120, hc141, hc143, hc152, hc154, not_true_eq_false, not_false_eq_true, if_true, if_false, or_true, true_or, or_false, false_or, and_true, true_and, and_false, false_and, and_self, or_self]]; rfl), N0, e0⟩
          · have G156 : Go p e below A0 (s₁.setTop (mkF m 33 #[.val (.int uc)] [(.int 57), (.int uc)])) := fun tq kq => G153 tq (by
              refine XS.icmpNo X0.here hx rfl (hb hby d18_27) rfl (flt hc154).1 ?_
              refine XS.iloadN X0.here hx rfl (hb hby d18_30) rfl ?_
              refine XS.bipush X0.here hx rfl (hb hby d18_31) ?_
              exact kq)
            by_cases hc157 : (57 : Int32) < uc
            · have G158 : Go p e below A0 (s₁.setTop (mkF m 41 #[.val (.int uc)] [(.int 0)])) := fun tq kq => G156 tq (by
                refine XS.icmpYes X0.here hx rfl (pc0 := 33) (pc' := 40) rfl (hb hby d18_33) rfl (tlt hc157).2.2.1 (by decide) (by decide) ?_
                refine XS.iconst X0.here hx rfl (hb hby d18_40) ?_
                exact kq)
              obtain ⟨fs, hr, hrun, hended, hW, hsame⟩ := X0.leave (v := some (.int (nar .boolean (0 : Int32)))) (fun h => by rw [Bd.returns] at h; cases h)
              refine ⟨_, _, (by rw [← hA0]; exact G158 _ (retN X0 hx (t := .boolean) Bd.returns (by simp) (hb hby d18_41) hr)), hrun, hended, _, _, rfl, ?_, ⟨_, rfl⟩, hW, hsame.mono (by decide) (by decide)⟩
              exact ⟨(by rw [show own_b (own_ld uc) = (0 : Int32) from by simp only [own_b, own_ld, hc120, hc141, hc143, hc152, hc154, hc157, not_true_eq_false, not_false_eq_true, if_true, if_false, or_true, true_or, or_false, false_or, and_true, true_and, and_false, false_and, and_self, or_self]]; rfl), N0, e0⟩
            · have G159 : Go p e below A0 (s₁.setTop (mkF m 41 #[.val (.int uc)] [(.int 1)])) := fun tq kq => G156 tq (by
                refine XS.icmpNo X0.here hx rfl (hb hby d18_33) rfl (flt hc157).2.2.1 ?_
                refine XS.iconst X0.here hx rfl (hb hby d18_36) ?_
                refine XS.goto X0.here hx rfl (pc0 := 37) (pc' := 41) rfl (hb hby d18_37) (by decide) (by decide) ?_
                exact kq)
              obtain ⟨fs, hr, hrun, hended, hW, hsame⟩ := X0.leave (v := some (.int (nar .boolean (1 : Int32)))) (fun h => by rw [Bd.returns] at h; cases h)
              refine ⟨_, _, (by rw [← hA0]; exact G159 _ (retN X0 hx (t := .boolean) Bd.returns (by simp) (hb hby d18_41) hr)), hrun, hended, _, _, rfl, ?_, ⟨_, rfl⟩, hW, hsame.mono (by decide) (by decide)⟩
              exact ⟨(by rw [show own_b (own_ld uc) = (1 : Int32) from by simp only [own_b, own_ld, hc120, hc141, hc143, hc152, hc154, hc157, not_true_eq_false, not_false_eq_true, if_true, if_false, or_true, true_or, or_false, false_or, and_true, true_and, and_false, false_and, and_self, or_self]]; rfl), N0, e0⟩
        · have G160 : Go p e below A0 (s₁.setTop (mkF m 41 #[.val (.int uc)] [(.int 1)])) := fun tq kq => G151 tq (by
            refine XS.icmpYes X0.here hx rfl (pc0 := 21) (pc' := 36) rfl (hb hby d18_21) rfl (flt hc152).2.2.2 (by decide) (by decide) ?_
            refine XS.iconst X0.here hx rfl (hb hby d18_36) ?_
            refine XS.goto X0.here hx rfl (pc0 := 37) (pc' := 41) rfl (hb hby d18_37) (by decide) (by decide) ?_
            exact kq)
          obtain ⟨fs, hr, hrun, hended, hW, hsame⟩ := X0.leave (v := some (.int (nar .boolean (1 : Int32)))) (fun h => by rw [Bd.returns] at h; cases h)
          refine ⟨_, _, (by rw [← hA0]; exact G160 _ (retN X0 hx (t := .boolean) Bd.returns (by simp) (hb hby d18_41) hr)), hrun, hended, _, _, rfl, ?_, ⟨_, rfl⟩, hW, hsame.mono (by decide) (by decide)⟩
          exact ⟨(by rw [show own_b (own_ld uc) = (1 : Int32) from by simp only [own_b, own_ld, hc120, hc141, hc143, hc152, not_true_eq_false, not_false_eq_true, if_true, if_false, or_true, true_or, or_false, false_or, and_true, true_and, and_false, false_and, and_self, or_self]]; rfl), N0, e0⟩
    · have G161 : Go p e below A0 (s₁.setTop (mkF m 41 #[.val (.int uc)] [(.int 1)])) := fun tq kq => G140 tq (by
        refine XS.icmpYes X0.here hx rfl (pc0 := 9) (pc' := 36) rfl (hb hby d18_9) rfl (flt hc141).2.2.2 (by decide) (by decide) ?_
        refine XS.iconst X0.here hx rfl (hb hby d18_36) ?_
        refine XS.goto X0.here hx rfl (pc0 := 37) (pc' := 41) rfl (hb hby d18_37) (by decide) (by decide) ?_
        exact kq)
      obtain ⟨fs, hr, hrun, hended, hW, hsame⟩ := X0.leave (v := some (.int (nar .boolean (1 : Int32)))) (fun h => by rw [Bd.returns] at h; cases h)
      refine ⟨_, _, (by rw [← hA0]; exact G161 _ (retN X0 hx (t := .boolean) Bd.returns (by simp) (hb hby d18_41) hr)), hrun, hended, _, _, rfl, ?_, ⟨_, rfl⟩, hW, hsame.mono (by decide) (by decide)⟩
      exact ⟨(by rw [show own_b (own_ld uc) = (1 : Int32) from by simp only [own_b, own_ld, hc120, hc141, not_true_eq_false, not_false_eq_true, if_true, if_false, or_true, true_or, or_false, false_or, and_true, true_and, and_false, false_and, and_self, or_self]]; rfl), N0, e0⟩
set_option maxRecDepth 65536 in
set_option maxHeartbeats 40000000 in
theorem rmAL (l : Launch) (Z : State) (a0 : Array Value) (hw : ∀ d ∈ tables_1, d.before a0 Z = true) (ws : List Jvm.Cond) (uc : Int32) (h0 : Heap) (n0 : Nat) (Z0 : n0 ≤ h0.size) (ruc : own_R uc) :
    MetFree l (⟨"com/example/role_delegation/roledelegation/NamesIsValidPinLaw", "alnum", "(C)Z"⟩ : MethodName) (head1 (Jvm.Cond.code (⟨"com/example/role_delegation/roledelegation/NamesIsValidPinLaw", "alnum", "(C)Z"⟩ : MethodName) method_3_code 2 (some .boolean) :: ws) (Rm 0 0 0 0)) (fun aa UU => aa = #[(.int uc)] ∧ Z.Warmed39 UU.vm ∧ UU.heap = h0) (fun _ _ _ _ _ => True) (fun _ UU oo U' => ∃ v L, oo = .returned v ∧ Qr (.int (own_b (own_ld uc))) h0 n0 v U'.heap L ∧ FrameEnd UU oo U' L (Rm 0 0 0 0).cells (Rm 0 0 0 0).slots) := by
  refine MetFree.of_bodySF (plainFor_of_name pn_5) hisR ?_
  intro p e s m args below meth c s₁ Bd hml0 hP hK
  obtain ⟨rfl, hZ, hh⟩ := hP
  have hx := Bd.exec
  have hby := Bd.bytes
  have hml : c.maxLocals = 2 := hml0
  have hown : s.vm.findClass "com/example/role_delegation/roledelegation/NamesIsValidPinLaw" = some m.cls := findClass_of_methodNamed Bd.named
  have hnm := (name_of_methodNamed Bd.named Bd.method).1
  have X0 : Stand p l e (Rm 0 0 0 0) s m #[(.int uc)] below meth c s₁ [] 0 0 := Stand.of_body Bd
  have e0 : s₁.heap = h0 := by rw [← hh, Bd.state]; rfl
  have N0 := Fr.nil n0
  obtain ⟨A0, hA0⟩ : ∃ A, A = s₁.setTop (entryFrame m #[(.int uc)] 2) := ⟨_, rfl⟩
  have G0 : Go p e below A0 (s₁.setTop (mkF m 0 #[.val (.int uc), .unset] [])) := fun tq kq => by rw [hA0]; exact castTop (ef_rmAL m uc) kq
  have G162 : Go p e below A0 (s₁.setTop (mkF m 8 #[.val (.int uc), .val (.int (uc ||| (32 : Int32)))] [(.int 48), (.int uc)])) := fun tq kq => G0 tq (by
    refine XS.iloadN X0.here hx rfl (hb hby d10_0) rfl ?_
    refine XS.bipush X0.here hx rfl (hb hby d10_1) ?_
    refine XS.ior X0.here hx rfl (hb hby d10_3) rfl ?_
    refine XS.istoreN X0.here hx rfl (hb hby d10_4) rfl (l' := #[.val (.int uc), .val (.int (uc ||| (32 : Int32)))]) rfl ?_
    refine XS.iloadN X0.here hx rfl (hb hby d10_5) rfl ?_
    refine XS.bipush X0.here hx rfl (hb hby d10_6) ?_
    exact kq)
  by_cases hc163 : uc < (48 : Int32)
  · have G164 : Go p e below A0 (s₁.setTop (mkF m 20 #[.val (.int uc), .val (.int (uc ||| (32 : Int32)))] [(.int 97), (.int (uc ||| (32 : Int32)))])) := fun tq kq => G162 tq (by
      refine XS.icmpYes X0.here hx rfl (pc0 := 8) (pc' := 17) rfl (hb hby d10_8) rfl (tlt hc163).1 (by decide) (by decide) ?_
      refine XS.iloadN X0.here hx rfl (hb hby d10_17) rfl ?_
      refine XS.bipush X0.here hx rfl (hb hby d10_18) ?_
      exact kq)
    by_cases hc165 : (uc ||| (32 : Int32)) < (97 : Int32)
    · have G166 : Go p e below A0 (s₁.setTop (mkF m 34 #[.val (.int uc), .val (.int (uc ||| (32 : Int32)))] [(.int 0)])) := fun tq kq => G164 tq (by
        refine XS.icmpYes X0.here hx rfl (pc0 := 20) (pc' := 33) rfl (hb hby d10_20) rfl (tlt hc165).1 (by decide) (by decide) ?_
        refine XS.iconst X0.here hx rfl (hb hby d10_33) ?_
        exact kq)
      obtain ⟨fs, hr, hrun, hended, hW, hsame⟩ := X0.leave (v := some (.int (nar .boolean (0 : Int32)))) (fun h => by rw [Bd.returns] at h; cases h)
      refine ⟨_, _, (by rw [← hA0]; exact G166 _ (retN X0 hx (t := .boolean) Bd.returns (by simp) (hb hby d10_34) hr)), hrun, hended, _, _, rfl, ?_, ⟨_, rfl⟩, hW, hsame.mono (by decide) (by decide)⟩
      exact ⟨(by rw [own_beq (own_alq ruc), show own_b (own_al uc) = (0 : Int32) from by simp only [own_b, own_al, hc163, hc165, not_true_eq_false, not_false_eq_true, if_true, if_false, or_true, true_or, or_false, false_or, and_true, true_and, and_false, false_and, and_self, or_self]]; rfl), N0, e0⟩
    · have G167 : Go p e below A0 (s₁.setTop (mkF m 26 #[.val (.int uc), .val (.int (uc ||| (32 : Int32)))] [(.int 122), (.int (uc ||| (32 : Int32)))])) := fun tq kq => G164 tq (by
        refine XS.icmpNo X0.here hx rfl (hb hby d10_20) rfl (flt hc165).1 ?_
        refine XS.iloadN X0.here hx rfl (hb hby d10_23) rfl ?_
        refine XS.bipush X0.here hx rfl (hb hby d10_24) ?_
        exact kq)
      by_cases hc168 : (122 : Int32) < (uc ||| (32 : Int32))
      · have G169 : Go p e below A0 (s₁.setTop (mkF m 34 #[.val (.int uc), .val (.int (uc ||| (32 : Int32)))] [(.int 0)])) := fun tq kq => G167 tq (by
          refine XS.icmpYes X0.here hx rfl (pc0 := 26) (pc' := 33) rfl (hb hby d10_26) rfl (tlt hc168).2.2.1 (by decide) (by decide) ?_
          refine XS.iconst X0.here hx rfl (hb hby d10_33) ?_
          exact kq)
        obtain ⟨fs, hr, hrun, hended, hW, hsame⟩ := X0.leave (v := some (.int (nar .boolean (0 : Int32)))) (fun h => by rw [Bd.returns] at h; cases h)
        refine ⟨_, _, (by rw [← hA0]; exact G169 _ (retN X0 hx (t := .boolean) Bd.returns (by simp) (hb hby d10_34) hr)), hrun, hended, _, _, rfl, ?_, ⟨_, rfl⟩, hW, hsame.mono (by decide) (by decide)⟩
        exact ⟨(by rw [own_beq (own_alq ruc), show own_b (own_al uc) = (0 : Int32) from by simp only [own_b, own_al, hc163, hc165, hc168, not_true_eq_false, not_false_eq_true, if_true, if_false, or_true, true_or, or_false, false_or, and_true, true_and, and_false, false_and, and_self, or_self]]; rfl), N0, e0⟩
      · have G170 : Go p e below A0 (s₁.setTop (mkF m 34 #[.val (.int uc), .val (.int (uc ||| (32 : Int32)))] [(.int 1)])) := fun tq kq => G167 tq (by
          refine XS.icmpNo X0.here hx rfl (hb hby d10_26) rfl (flt hc168).2.2.1 ?_
          refine XS.iconst X0.here hx rfl (hb hby d10_29) ?_
          refine XS.goto X0.here hx rfl (pc0 := 30) (pc' := 34) rfl (hb hby d10_30) (by decide) (by decide) ?_
          exact kq)
        obtain ⟨fs, hr, hrun, hended, hW, hsame⟩ := X0.leave (v := some (.int (nar .boolean (1 : Int32)))) (fun h => by rw [Bd.returns] at h; cases h)
        refine ⟨_, _, (by rw [← hA0]; exact G170 _ (retN X0 hx (t := .boolean) Bd.returns (by simp) (hb hby d10_34) hr)), hrun, hended, _, _, rfl, ?_, ⟨_, rfl⟩, hW, hsame.mono (by decide) (by decide)⟩
        exact ⟨(by rw [own_beq (own_alq ruc), show own_b (own_al uc) = (1 : Int32) from by simp only [own_b, own_al, hc163, hc165, hc168, not_true_eq_false, not_false_eq_true, if_true, if_false, or_true, true_or, or_false, false_or, and_true, true_and, and_false, false_and, and_self, or_self]]; rfl), N0, e0⟩
  · have G171 : Go p e below A0 (s₁.setTop (mkF m 14 #[.val (.int uc), .val (.int (uc ||| (32 : Int32)))] [(.int 57), (.int uc)])) := fun tq kq => G162 tq (by
      refine XS.icmpNo X0.here hx rfl (hb hby d10_8) rfl (flt hc163).1 ?_
      refine XS.iloadN X0.here hx rfl (hb hby d10_11) rfl ?_
      refine XS.bipush X0.here hx rfl (hb hby d10_12) ?_
      exact kq)
    by_cases hc172 : (57 : Int32) < uc
    · have G173 : Go p e below A0 (s₁.setTop (mkF m 20 #[.val (.int uc), .val (.int (uc ||| (32 : Int32)))] [(.int 97), (.int (uc ||| (32 : Int32)))])) := fun tq kq => G171 tq (by
        refine XS.icmpNo X0.here hx rfl (hb hby d10_14) rfl (tlt hc172).2.2.2 ?_
        refine XS.iloadN X0.here hx rfl (hb hby d10_17) rfl ?_
        refine XS.bipush X0.here hx rfl (hb hby d10_18) ?_
        exact kq)
      by_cases hc174 : (uc ||| (32 : Int32)) < (97 : Int32)
      · have G175 : Go p e below A0 (s₁.setTop (mkF m 34 #[.val (.int uc), .val (.int (uc ||| (32 : Int32)))] [(.int 0)])) := fun tq kq => G173 tq (by
          refine XS.icmpYes X0.here hx rfl (pc0 := 20) (pc' := 33) rfl (hb hby d10_20) rfl (tlt hc174).1 (by decide) (by decide) ?_
          refine XS.iconst X0.here hx rfl (hb hby d10_33) ?_
          exact kq)
        obtain ⟨fs, hr, hrun, hended, hW, hsame⟩ := X0.leave (v := some (.int (nar .boolean (0 : Int32)))) (fun h => by rw [Bd.returns] at h; cases h)
        refine ⟨_, _, (by rw [← hA0]; exact G175 _ (retN X0 hx (t := .boolean) Bd.returns (by simp) (hb hby d10_34) hr)), hrun, hended, _, _, rfl, ?_, ⟨_, rfl⟩, hW, hsame.mono (by decide) (by decide)⟩
        exact ⟨(by rw [own_beq (own_alq ruc), show own_b (own_al uc) = (0 : Int32) from by simp only [own_b, own_al, hc163, hc172, hc174, not_true_eq_false, not_false_eq_true, if_true, if_false, or_true, true_or, or_false, false_or, and_true, true_and, and_false, false_and, and_self, or_self]]; rfl), N0, e0⟩
      · have G176 : Go p e below A0 (s₁.setTop (mkF m 26 #[.val (.int uc), .val (.int (uc ||| (32 : Int32)))] [(.int 122), (.int (uc ||| (32 : Int32)))])) := fun tq kq => G173 tq (by
          refine XS.icmpNo X0.here hx rfl (hb hby d10_20) rfl (flt hc174).1 ?_
          refine XS.iloadN X0.here hx rfl (hb hby d10_23) rfl ?_
          refine XS.bipush X0.here hx rfl (hb hby d10_24) ?_
          exact kq)
        by_cases hc177 : (122 : Int32) < (uc ||| (32 : Int32))
        · have G178 : Go p e below A0 (s₁.setTop (mkF m 34 #[.val (.int uc), .val (.int (uc ||| (32 : Int32)))] [(.int 0)])) := fun tq kq => G176 tq (by
            refine XS.icmpYes X0.here hx rfl (pc0 := 26) (pc' := 33) rfl (hb hby d10_26) rfl (tlt hc177).2.2.1 (by decide) (by decide) ?_
            refine XS.iconst X0.here hx rfl (hb hby d10_33) ?_
            exact kq)
          obtain ⟨fs, hr, hrun, hended, hW, hsame⟩ := X0.leave (v := some (.int (nar .boolean (0 : Int32)))) (fun h => by rw [Bd.returns] at h; cases h)
          refine ⟨_, _, (by rw [← hA0]; exact G178 _ (retN X0 hx (t := .boolean) Bd.returns (by simp) (hb hby d10_34) hr)), hrun, hended, _, _, rfl, ?_, ⟨_, rfl⟩, hW, hsame.mono (by decide) (by decide)⟩
          exact ⟨(by rw [own_beq (own_alq ruc), show own_b (own_al uc) = (0 : Int32) from by simp only [own_b, own_al, hc163, hc172, hc174, hc177, not_true_eq_false, not_false_eq_true, if_true, if_false, or_true, true_or, or_false, false_or, and_true, true_and, and_false, false_and, and_self, or_self]]; rfl), N0, e0⟩
        · have G179 : Go p e below A0 (s₁.setTop (mkF m 34 #[.val (.int uc), .val (.int (uc ||| (32 : Int32)))] [(.int 1)])) := fun tq kq => G176 tq (by
            refine XS.icmpNo X0.here hx rfl (hb hby d10_26) rfl (flt hc177).2.2.1 ?_
            refine XS.iconst X0.here hx rfl (hb hby d10_29) ?_
            refine XS.goto X0.here hx rfl (pc0 := 30) (pc' := 34) rfl (hb hby d10_30) (by decide) (by decide) ?_
            exact kq)
          obtain ⟨fs, hr, hrun, hended, hW, hsame⟩ := X0.leave (v := some (.int (nar .boolean (1 : Int32)))) (fun h => by rw [Bd.returns] at h; cases h)
          refine ⟨_, _, (by rw [← hA0]; exact G179 _ (retN X0 hx (t := .boolean) Bd.returns (by simp) (hb hby d10_34) hr)), hrun, hended, _, _, rfl, ?_, ⟨_, rfl⟩, hW, hsame.mono (by decide) (by decide)⟩
          exact ⟨(by rw [own_beq (own_alq ruc), show own_b (own_al uc) = (1 : Int32) from by simp only [own_b, own_al, hc163, hc172, hc174, hc177, not_true_eq_false, not_false_eq_true, if_true, if_false, or_true, true_or, or_false, false_or, and_true, true_and, and_false, false_and, and_self, or_self]]; rfl), N0, e0⟩
    · have G180 : Go p e below A0 (s₁.setTop (mkF m 34 #[.val (.int uc), .val (.int (uc ||| (32 : Int32)))] [(.int 1)])) := fun tq kq => G171 tq (by
        refine XS.icmpYes X0.here hx rfl (pc0 := 14) (pc' := 29) rfl (hb hby d10_14) rfl (flt hc172).2.2.2 (by decide) (by decide) ?_
        refine XS.iconst X0.here hx rfl (hb hby d10_29) ?_
        refine XS.goto X0.here hx rfl (pc0 := 30) (pc' := 34) rfl (hb hby d10_30) (by decide) (by decide) ?_
        exact kq)
      obtain ⟨fs, hr, hrun, hended, hW, hsame⟩ := X0.leave (v := some (.int (nar .boolean (1 : Int32)))) (fun h => by rw [Bd.returns] at h; cases h)
      refine ⟨_, _, (by rw [← hA0]; exact G180 _ (retN X0 hx (t := .boolean) Bd.returns (by simp) (hb hby d10_34) hr)), hrun, hended, _, _, rfl, ?_, ⟨_, rfl⟩, hW, hsame.mono (by decide) (by decide)⟩
      exact ⟨(by rw [own_beq (own_alq ruc), show own_b (own_al uc) = (1 : Int32) from by simp only [own_b, own_al, hc163, hc172, not_true_eq_false, not_false_eq_true, if_true, if_false, or_true, true_or, or_false, false_or, and_true, true_and, and_false, false_and, and_self, or_self]]; rfl), N0, e0⟩
set_option maxRecDepth 65536 in
set_option maxHeartbeats 40000000 in
theorem rmTL (l : Launch) (Z : State) (a0 : Array Value) (hw : ∀ d ∈ tables_1, d.before a0 Z = true) (ws : List Jvm.Cond) (uc : Int32) (h0 : Heap) (n0 : Nat) (Z0 : n0 ≤ h0.size) (ruc : own_R uc) :
    MetFree l (⟨"com/example/role_delegation/roledelegation/NamesIsValidPinLaw", "tail", "(C)Z"⟩ : MethodName) (head1 (Jvm.Cond.code (⟨"com/example/role_delegation/roledelegation/NamesIsValidPinLaw", "tail", "(C)Z"⟩ : MethodName) method_4_code 1 (some .boolean) :: ws) (Rm 1 0 0 13)) (fun aa UU => aa = #[(.int uc)] ∧ Z.Warmed39 UU.vm ∧ UU.heap = h0) (fun _ _ _ _ _ => True) (fun _ UU oo U' => ∃ v L, oo = .returned v ∧ Qr (.int (own_b (own_tl uc))) h0 n0 v U'.heap L ∧ FrameEnd UU oo U' L (Rm 1 0 0 13).cells (Rm 1 0 0 13).slots) := by
  refine MetFree.of_bodySF (plainFor_of_name pn_5) hisR ?_
  intro p e s m args below meth c s₁ Bd hml0 hP hK
  obtain ⟨rfl, hZ, hh⟩ := hP
  have hx := Bd.exec
  have hby := Bd.bytes
  have hml : c.maxLocals = 1 := hml0
  have hown : s.vm.findClass "com/example/role_delegation/roledelegation/NamesIsValidPinLaw" = some m.cls := findClass_of_methodNamed Bd.named
  have hnm := (name_of_methodNamed Bd.named Bd.method).1
  have X0 : Stand p l e (Rm 1 0 0 13) s m #[(.int uc)] below meth c s₁ [] 0 0 := Stand.of_body Bd
  have e0 : s₁.heap = h0 := by rw [← hh, Bd.state]; rfl
  have N0 := Fr.nil n0
  obtain ⟨A0, hA0⟩ : ∃ A, A = s₁.setTop (entryFrame m #[(.int uc)] 1) := ⟨_, rfl⟩
  have G0 : Go p e below A0 (s₁.setTop (mkF m 0 #[.val (.int uc)] [])) := fun tq kq => by rw [hA0]; exact castTop (ef_rmTL m uc) kq
  have G181 : Go p e below A0 (s₁.setTop (mkF m 1 #[.val (.int uc)] [(.int uc)])) := fun tq kq => G0 tq (by
    refine XS.iloadN X0.here hx rfl (hb hby d19_0) rfl ?_
    exact kq)
  obtain ⟨_, _, ⟨T182, L182, k182, n182⟩, -, X182, ⟨Lc182, hQ182, l182, y182, z182⟩, st182⟩ := Jvm.LawKit.callS X0 hx (y := (⟨"com/example/role_delegation/roledelegation/NamesIsValidPinLaw", "alnum", "(C)Z"⟩ : MethodName)) hown (mvT hZ (wd hw 48 rfl)) (mvT hZ (wd hw 49 rfl)) (mvT hZ (wd hw 2 rfl)) (mvT hZ (wd hw 50 rfl)) (by decide) (backOf (W := 0) (rmAL l Z a0 hw [] uc h0 n0 Z0 ruc) hZ (wd hw 50 rfl) (wd hw 2 rfl) (by decide) (by decide)) (g := (mkF m 1 #[.val (.int uc)] [(.int uc)])) rfl (by rw [hml]; rfl) (argsL := [(.int uc)]) (rest := []) (lenOf pd_7 rfl) rfl (by show 2 * 0 + _ ≤ _; exact Nat.le_of_eq rfl) (hb hby d19_1) (fun _ _ => ⟨rfl, e0, (by decide : 0 + 0 ≤ _), (by decide : 0 + 0 ≤ _)⟩)
  dsimp only [Pt.U, Pt.locs, Pt.cells, Pt.slots] at X182 l182 y182 z182 st182 hQ182
  obtain rfl : k182 = 0 := y182
  obtain rfl : n182 = 0 := z182
  obtain ⟨rfl, N182q, e182⟩ := hQ182
  have N182 : Fr n0 L182 := by rw [l182]; exact Fr.app N0 N182q
  have G183 : Go p e below A0 (T182.setTop (mkF m 4 #[.val (.int uc)] [(.int (own_b (own_ld uc)))])) := fun tq kq => G181 tq (st182 _ kq)
  by_cases hc184 : (own_ld uc)
  · have G185 : Go p e below A0 (T182.setTop (mkF m 36 #[.val (.int uc)] [(.int 1)])) := fun tq kq => G183 tq (by
      refine XS.ifYes X182.here hx rfl (pc0 := 4) (pc' := 31) rfl (hb hby d19_4) rfl ((if0 _ _).trans (feq (own_b1 hc184)).2) (by decide) (by decide) ?_
      refine XS.iconst X182.here hx rfl (hb hby d19_31) ?_
      refine XS.goto X182.here hx rfl (pc0 := 32) (pc' := 36) rfl (hb hby d19_32) (by decide) (by decide) ?_
      exact kq)
    obtain ⟨fs, hr, hrun, hended, hW, hsame⟩ := X182.leave (v := some (.int (nar .boolean (1 : Int32)))) (fun h => by rw [Bd.returns] at h; cases h)
    refine ⟨_, _, (by rw [← hA0]; exact G185 _ (retN X182 hx (t := .boolean) Bd.returns (by simp) (hb hby d19_36) hr)), hrun, hended, _, _, rfl, ?_, ⟨_, rfl⟩, hW, hsame.mono (by decide) (by decide)⟩
    exact ⟨(by rw [show own_b (own_tl uc) = (1 : Int32) from by simp only [own_b, own_tl, hc184, not_true_eq_false, not_false_eq_true, if_true, if_false, or_true, true_or, or_false, false_or, and_true, true_and, and_false, false_and, and_self, or_self]]; rfl), N182, e182⟩
  · have G186 : Go p e below A0 (T182.setTop (mkF m 10 #[.val (.int uc)] [(.int 95), (.int uc)])) := fun tq kq => G183 tq (by
      refine XS.ifNo X182.here hx rfl (hb hby d19_4) rfl ((if0 _ _).trans (teq (own_b0 hc184)).2) ?_
      refine XS.iloadN X182.here hx rfl (hb hby d19_7) rfl ?_
      refine XS.bipush X182.here hx rfl (hb hby d19_8) ?_
      exact kq)
    by_cases hc187 : uc = (95 : Int32)
    · have G188 : Go p e below A0 (T182.setTop (mkF m 36 #[.val (.int uc)] [(.int 1)])) := fun tq kq => G186 tq (by
        refine XS.icmpYes X182.here hx rfl (pc0 := 10) (pc' := 31) rfl (hb hby d19_10) rfl (teq hc187).1 (by decide) (by decide) ?_
        refine XS.iconst X182.here hx rfl (hb hby d19_31) ?_
        refine XS.goto X182.here hx rfl (pc0 := 32) (pc' := 36) rfl (hb hby d19_32) (by decide) (by decide) ?_
        exact kq)
      obtain ⟨fs, hr, hrun, hended, hW, hsame⟩ := X182.leave (v := some (.int (nar .boolean (1 : Int32)))) (fun h => by rw [Bd.returns] at h; cases h)
      refine ⟨_, _, (by rw [← hA0]; exact G188 _ (retN X182 hx (t := .boolean) Bd.returns (by simp) (hb hby d19_36) hr)), hrun, hended, _, _, rfl, ?_, ⟨_, rfl⟩, hW, hsame.mono (by decide) (by decide)⟩
      exact ⟨(by rw [show own_b (own_tl uc) = (1 : Int32) from by simp only [own_b, own_tl, hc184, hc187, not_true_eq_false, not_false_eq_true, if_true, if_false, or_true, true_or, or_false, false_or, and_true, true_and, and_false, false_and, and_self, or_self]]; rfl), N182, e182⟩
    · have G189 : Go p e below A0 (T182.setTop (mkF m 16 #[.val (.int uc)] [(.int 46), (.int uc)])) := fun tq kq => G186 tq (by
        refine XS.icmpNo X182.here hx rfl (hb hby d19_10) rfl (feq hc187).1 ?_
        refine XS.iloadN X182.here hx rfl (hb hby d19_13) rfl ?_
        refine XS.bipush X182.here hx rfl (hb hby d19_14) ?_
        exact kq)
      by_cases hc190 : uc = (46 : Int32)
      · have G191 : Go p e below A0 (T182.setTop (mkF m 36 #[.val (.int uc)] [(.int 1)])) := fun tq kq => G189 tq (by
          refine XS.icmpYes X182.here hx rfl (pc0 := 16) (pc' := 31) rfl (hb hby d19_16) rfl (teq hc190).1 (by decide) (by decide) ?_
          refine XS.iconst X182.here hx rfl (hb hby d19_31) ?_
          refine XS.goto X182.here hx rfl (pc0 := 32) (pc' := 36) rfl (hb hby d19_32) (by decide) (by decide) ?_
          exact kq)
        obtain ⟨fs, hr, hrun, hended, hW, hsame⟩ := X182.leave (v := some (.int (nar .boolean (1 : Int32)))) (fun h => by rw [Bd.returns] at h; cases h)
        refine ⟨_, _, (by rw [← hA0]; exact G191 _ (retN X182 hx (t := .boolean) Bd.returns (by simp) (hb hby d19_36) hr)), hrun, hended, _, _, rfl, ?_, ⟨_, rfl⟩, hW, hsame.mono (by decide) (by decide)⟩
        exact ⟨(by rw [show own_b (own_tl uc) = (1 : Int32) from by simp only [own_b, own_tl, hc184, hc187, hc190, not_true_eq_false, not_false_eq_true, if_true, if_false, or_true, true_or, or_false, false_or, and_true, true_and, and_false, false_and, and_self, or_self]]; rfl), N182, e182⟩
      · have G192 : Go p e below A0 (T182.setTop (mkF m 22 #[.val (.int uc)] [(.int 58), (.int uc)])) := fun tq kq => G189 tq (by
          refine XS.icmpNo X182.here hx rfl (hb hby d19_16) rfl (feq hc190).1 ?_
          refine XS.iloadN X182.here hx rfl (hb hby d19_19) rfl ?_
          refine XS.bipush X182.here hx rfl (hb hby d19_20) ?_
          exact kq)
        by_cases hc193 : uc = (58 : Int32)
        · have G194 : Go p e below A0 (T182.setTop (mkF m 36 #[.val (.int uc)] [(.int 1)])) := fun tq kq => G192 tq (by
            refine XS.icmpYes X182.here hx rfl (pc0 := 22) (pc' := 31) rfl (hb hby d19_22) rfl (teq hc193).1 (by decide) (by decide) ?_
            refine XS.iconst X182.here hx rfl (hb hby d19_31) ?_
            refine XS.goto X182.here hx rfl (pc0 := 32) (pc' := 36) rfl (hb hby d19_32) (by decide) (by decide) ?_
            exact kq)
          obtain ⟨fs, hr, hrun, hended, hW, hsame⟩ := X182.leave (v := some (.int (nar .boolean (1 : Int32)))) (fun h => by rw [Bd.returns] at h; cases h)
          refine ⟨_, _, (by rw [← hA0]; exact G194 _ (retN X182 hx (t := .boolean) Bd.returns (by simp) (hb hby d19_36) hr)), hrun, hended, _, _, rfl, ?_, ⟨_, rfl⟩, hW, hsame.mono (by decide) (by decide)⟩
          exact ⟨(by rw [show own_b (own_tl uc) = (1 : Int32) from by simp only [own_b, own_tl, hc184, hc187, hc190, hc193, not_true_eq_false, not_false_eq_true, if_true, if_false, or_true, true_or, or_false, false_or, and_true, true_and, and_false, false_and, and_self, or_self]]; rfl), N182, e182⟩
        · have G195 : Go p e below A0 (T182.setTop (mkF m 28 #[.val (.int uc)] [(.int 45), (.int uc)])) := fun tq kq => G192 tq (by
            refine XS.icmpNo X182.here hx rfl (hb hby d19_22) rfl (feq hc193).1 ?_
            refine XS.iloadN X182.here hx rfl (hb hby d19_25) rfl ?_
            refine XS.bipush X182.here hx rfl (hb hby d19_26) ?_
            exact kq)
          by_cases hc196 : uc = (45 : Int32)
          · have G197 : Go p e below A0 (T182.setTop (mkF m 36 #[.val (.int uc)] [(.int 1)])) := fun tq kq => G195 tq (by
              refine XS.icmpNo X182.here hx rfl (hb hby d19_28) rfl (teq hc196).2 ?_
              refine XS.iconst X182.here hx rfl (hb hby d19_31) ?_
              refine XS.goto X182.here hx rfl (pc0 := 32) (pc' := 36) rfl (hb hby d19_32) (by decide) (by decide) ?_
              exact kq)
            obtain ⟨fs, hr, hrun, hended, hW, hsame⟩ := X182.leave (v := some (.int (nar .boolean (1 : Int32)))) (fun h => by rw [Bd.returns] at h; cases h)
            refine ⟨_, _, (by rw [← hA0]; exact G197 _ (retN X182 hx (t := .boolean) Bd.returns (by simp) (hb hby d19_36) hr)), hrun, hended, _, _, rfl, ?_, ⟨_, rfl⟩, hW, hsame.mono (by decide) (by decide)⟩
            exact ⟨(by rw [show own_b (own_tl uc) = (1 : Int32) from by simp only [own_b, own_tl, hc184, hc187, hc190, hc193, hc196, not_true_eq_false, not_false_eq_true, if_true, if_false, or_true, true_or, or_false, false_or, and_true, true_and, and_false, false_and, and_self, or_self]]; rfl), N182, e182⟩
          · have G198 : Go p e below A0 (T182.setTop (mkF m 36 #[.val (.int uc)] [(.int 0)])) := fun tq kq => G195 tq (by
              refine XS.icmpYes X182.here hx rfl (pc0 := 28) (pc' := 35) rfl (hb hby d19_28) rfl (feq hc196).2 (by decide) (by decide) ?_
              refine XS.iconst X182.here hx rfl (hb hby d19_35) ?_
              exact kq)
            obtain ⟨fs, hr, hrun, hended, hW, hsame⟩ := X182.leave (v := some (.int (nar .boolean (0 : Int32)))) (fun h => by rw [Bd.returns] at h; cases h)
            refine ⟨_, _, (by rw [← hA0]; exact G198 _ (retN X182 hx (t := .boolean) Bd.returns (by simp) (hb hby d19_36) hr)), hrun, hended, _, _, rfl, ?_, ⟨_, rfl⟩, hW, hsame.mono (by decide) (by decide)⟩
            exact ⟨(by rw [show own_b (own_tl uc) = (0 : Int32) from by simp only [own_b, own_tl, hc184, hc187, hc190, hc193, hc196, not_true_eq_false, not_false_eq_true, if_true, if_false, or_true, true_or, or_false, false_or, and_true, true_and, and_false, false_and, and_self, or_self]]; rfl), N182, e182⟩
set_option maxRecDepth 65536 in
set_option maxHeartbeats 40000000 in
theorem rmDR (l : Launch) (Z : State) (a0 : Array Value) (hw : ∀ d ∈ tables_1, d.before a0 Z = true) (ws : List Jvm.Cond) (y1 r1 : Int32) (h0 : Heap) (n0 : Nat) (Z0 : n0 ≤ h0.size) (hr0 : r1 = own_dr y1) :
    MetFree l (⟨"com/example/role_delegation/roledelegation/NamesIsValidPinLaw", "draw", "(I)C"⟩ : MethodName) (head1 (Jvm.Cond.code (⟨"com/example/role_delegation/roledelegation/NamesIsValidPinLaw", "draw", "(I)C"⟩ : MethodName) method_2_code 1 (some .char) :: ws) (Rm 0 0 0 0)) (fun aa UU => aa = #[(.int y1)] ∧ Z.Warmed39 UU.vm ∧ UU.heap = h0) (fun _ _ _ _ _ => True) (fun _ UU oo U' => ∃ v L, oo = .returned v ∧ Qr (.int r1) h0 n0 v U'.heap L ∧ FrameEnd UU oo U' L (Rm 0 0 0 0).cells (Rm 0 0 0 0).slots) := by
  refine MetFree.of_bodySF (plainFor_of_name pn_5) hisR ?_
  intro p e s m args below meth c s₁ Bd hml0 hP hK
  obtain ⟨rfl, hZ, hh⟩ := hP
  have hx := Bd.exec
  have hby := Bd.bytes
  have hml : c.maxLocals = 1 := hml0
  have hown : s.vm.findClass "com/example/role_delegation/roledelegation/NamesIsValidPinLaw" = some m.cls := findClass_of_methodNamed Bd.named
  have hnm := (name_of_methodNamed Bd.named Bd.method).1
  have X0 : Stand p l e (Rm 0 0 0 0) s m #[(.int y1)] below meth c s₁ [] 0 0 := Stand.of_body Bd
  have e0 : s₁.heap = h0 := by rw [← hh, Bd.state]; rfl
  have N0 := Fr.nil n0
  obtain ⟨A0, hA0⟩ : ∃ A, A = s₁.setTop (entryFrame m #[(.int y1)] 1) := ⟨_, rfl⟩
  have G0 : Go p e below A0 (s₁.setTop (mkF m 0 #[.val (.int y1)] [])) := fun tq kq => by rw [hA0]; exact castTop (ef_rmDR m y1) kq
  have G199 : Go p e below A0 (s₁.setTop (mkF m 4 #[.val (.int y1)] [(.int (y1 &&& (65536 : Int32)))])) := fun tq kq => G0 tq (by
    refine XS.iloadN X0.here hx rfl (hb hby d1_0) rfl ?_
    refine X0.ldcInt hx hown (mvT hZ (wd hw 4 rfl)) (g := (mkF m 1 #[.val (.int y1)] [(.int y1)])) rfl (hb hby d1_1) _ ?_
    refine XS.iand X0.here hx rfl (hb hby d1_3) rfl ?_
    exact kq)
  by_cases hc200 : (y1 &&& (65536 : Int32)) = (0 : Int32)
  · have G201 : Go p e below A0 (s₁.setTop (mkF m 18 #[.val (.int y1)] [(.int (y1 &&& (65535 : Int32)).toUInt32.toUInt16.toUInt32.toInt32)])) := fun tq kq => G199 tq (by
      refine XS.ifYes X0.here hx rfl (pc0 := 4) (pc' := 13) rfl (hb hby d1_4) rfl ((if0 _ _).trans (teq hc200).1) (by decide) (by decide) ?_
      refine XS.iloadN X0.here hx rfl (hb hby d1_13) rfl ?_
      refine X0.ldcInt hx hown (mvT hZ (wd hw 5 rfl)) (g := (mkF m 14 #[.val (.int y1)] [(.int y1)])) rfl (hb hby d1_14) _ ?_
      refine XS.iand X0.here hx rfl (hb hby d1_16) rfl ?_
      refine XS.i2c X0.here hx rfl (hb hby d1_17) rfl ?_
      exact kq)
    obtain ⟨fs, hr, hrun, hended, hW, hsame⟩ := X0.leave (v := some (.int (nar .char (y1 &&& (65535 : Int32)).toUInt32.toUInt16.toUInt32.toInt32))) (fun h => by rw [Bd.returns] at h; cases h)
    refine ⟨_, _, (by rw [← hA0]; exact G201 _ (retN X0 hx (t := .char) Bd.returns (by simp) (hb hby d1_18) hr)), hrun, hended, _, _, rfl, ?_, ⟨_, rfl⟩, hW, hsame.mono (by decide) (by decide)⟩
    exact ⟨(by rw [hr0, show own_dr y1 = nar .char (y1 &&& (65535 : Int32)).toUInt32.toUInt16.toUInt32.toInt32 from by simp only [own_b, own_dr, hc200, not_true_eq_false, not_false_eq_true, if_true, if_false, or_true, true_or, or_false, false_or, and_true, true_and, and_false, false_and, and_self, or_self]]), N0, e0⟩
  · have G202 : Go p e below A0 (s₁.setTop (mkF m 12 #[.val (.int y1)] [(.int (y1 &&& (127 : Int32)).toUInt32.toUInt16.toUInt32.toInt32)])) := fun tq kq => G199 tq (by
      refine XS.ifNo X0.here hx rfl (hb hby d1_4) rfl ((if0 _ _).trans (feq hc200).1) ?_
      refine XS.iloadN X0.here hx rfl (hb hby d1_7) rfl ?_
      refine XS.bipush X0.here hx rfl (hb hby d1_8) ?_
      refine XS.iand X0.here hx rfl (hb hby d1_10) rfl ?_
      refine XS.i2c X0.here hx rfl (hb hby d1_11) rfl ?_
      exact kq)
    obtain ⟨fs, hr, hrun, hended, hW, hsame⟩ := X0.leave (v := some (.int (nar .char (y1 &&& (127 : Int32)).toUInt32.toUInt16.toUInt32.toInt32))) (fun h => by rw [Bd.returns] at h; cases h)
    refine ⟨_, _, (by rw [← hA0]; exact G202 _ (retN X0 hx (t := .char) Bd.returns (by simp) (hb hby d1_12) hr)), hrun, hended, _, _, rfl, ?_, ⟨_, rfl⟩, hW, hsame.mono (by decide) (by decide)⟩
    exact ⟨(by rw [hr0, show own_dr y1 = nar .char (y1 &&& (127 : Int32)).toUInt32.toUInt16.toUInt32.toInt32 from by simp only [own_b, own_dr, hc200, not_true_eq_false, not_false_eq_true, if_true, if_false, or_true, true_or, or_false, false_or, and_true, true_and, and_false, false_and, and_self, or_self]]), N0, e0⟩
def Sn0 (Z : State) (h : Heap) (a : Addr)  : Prop := ∃ b kb, Fld Z h a "java/lang/String" "value" "[B" (.ref b) ∧ ((True ∧ Fld Z h a "java/lang/String" "coder" "B" (.int 0) ∧ Arv Z h b kb .byte (0 : Int32) [] (.int 0)))
set_option maxRecDepth 65536 in
set_option maxHeartbeats 40000000 in
theorem rmV0 (l : Launch) (Z : State) (a0 : Array Value) (hw : ∀ d ∈ tables_1, d.before a0 Z = true) (ws : List Jvm.Cond) (a : Addr)  (cs : Int32) (fo : Value) (h0 : Heap) (n0 : Nat) (Z0 : n0 ≤ h0.size) (E : Exa Z h0 a "java/lang/String") (hs_ : Sn0 Z h0 a ) (hCS : Sta Z Z.heap "java/lang/String" "COMPACT_STRINGS" "Z" (.int cs)) (hcs : ¬ cs = (0 : Int32)) (hSF : Sta Z Z.heap "jdk/internal/util/Preconditions" "SIOOBE_FORMATTER" "Ljava/util/function/BiFunction;" fo) (hfo : fo.isRef = true) (hAD : Sta Z Z.heap "java/lang/StringUTF16" "$assertionsDisabled" "Z" (.int 1)) (hHI : Sta Z Z.heap "java/lang/StringUTF16" "HI_BYTE_SHIFT" "I" (.int 0)) (hLO : Sta Z Z.heap "java/lang/StringUTF16" "LO_BYTE_SHIFT" "I" (.int 8)) (hold : Old Z n0 h0) :
    MetFree l (⟨"com/example/role_delegation/roledelegation/Names", "isValid", "(Ljava/lang/String;)Z"⟩ : MethodName) (head1 (Jvm.Cond.code (⟨"com/example/role_delegation/roledelegation/Names", "isValid", "(Ljava/lang/String;)Z"⟩ : MethodName) prog_38_method_2_code 3 (some .boolean) :: ws) (Rm 1 0 0 12)) (fun aa UU => aa = #[(.ref a)] ∧ Z.Warmed39 UU.vm ∧ UU.heap = h0) (fun _ _ _ _ _ => True) (fun _ UU oo U' => ∃ v L, oo = .returned v ∧ Qr (.int (own_b False)) h0 n0 v U'.heap L ∧ FrameEnd UU oo U' L (Rm 1 0 0 12).cells (Rm 1 0 0 12).slots) := by
  refine MetFree.of_bodySF (plainFor_of_name pn_4) hisR ?_
  intro p e s m args below meth c s₁ Bd hml0 hP hK
  obtain ⟨rfl, hZ, hh⟩ := hP
  have hx := Bd.exec
  have hby := Bd.bytes
  have hml : c.maxLocals = 3 := hml0
  have hown : s.vm.findClass "com/example/role_delegation/roledelegation/Names" = some m.cls := findClass_of_methodNamed Bd.named
  have hnm := (name_of_methodNamed Bd.named Bd.method).1
  have X0 : Stand p l e (Rm 1 0 0 12) s m #[(.ref a)] below meth c s₁ [] 0 0 := Stand.of_body Bd
  have e0 : s₁.heap = h0 := by rw [← hh, Bd.state]; rfl
  have N0 := Fr.nil n0
  obtain ⟨A0, hA0⟩ : ∃ A, A = s₁.setTop (entryFrame m #[(.ref a)] 3) := ⟨_, rfl⟩
  have G0 : Go p e below A0 (s₁.setTop (mkF m 0 #[.val (.ref a), .unset, .unset] [])) := fun tq kq => by rw [hA0]; exact castTop (ef_rmV0 m a) kq
  obtain ⟨b, kb, Fv, hd⟩ := hs_
  obtain ⟨-, Fc, Ab⟩ := hd
  have G203 : Go p e below A0 (s₁.setTop (mkF m 1 #[.val (.ref a), .unset, .unset] [(.ref a)])) := fun tq kq => G0 tq (by
    refine XS.aloadN X0.here hx rfl (hb hby d5_0) rfl rfl ?_
    exact kq)
  obtain ⟨cq204, kq204, q204a, q204b, q204c⟩ := isOf hZ e0 E
  obtain ⟨_, _, ⟨T204, L204, k204, n204⟩, -, X204, ⟨Lc204, hQ204, l204, y204, z204⟩, st204⟩ := X0.virtualBack hx (y := (⟨"java/lang/String", "isEmpty", "()Z"⟩ : MethodName)) (z := (⟨"java/lang/String", "isEmpty", "()Z"⟩ : MethodName)) hown (mvT hZ (wd hw 32 rfl)) (mvT hZ (wd hw 33 rfl)) (notFace_of_selects (args := #[]) (mvT hZ (wd hw 35 rfl))) (mvT hZ (wd hw 35 rfl)) (mvT hZ (wd hw 34 rfl)) (by decide) (backOf (W := 0) (rmIE0 l Z a0 hw [] a b kb cs fo h0 n0 Z0 E Fv Ab hCS hcs hSF hfo hAD hHI hLO hold) hZ (wd hw 36 rfl) (wd hw 8 rfl) (by decide) (by decide)) q204a q204c (g := (mkF m 1 #[.val (.ref a), .unset, .unset] [(.ref a)])) rfl (by rw [hml]; rfl) (Steps.refl _) (argsL := []) (rest := []) (lenOf pd_6 rfl) rfl (by show 2 * 0 + _ ≤ _; exact Nat.le_of_eq rfl) (hb hby d5_1) (fun _ _ => ⟨rfl, e0, (by decide : 0 + 0 ≤ _), (by decide : 0 + 0 ≤ _)⟩)
  dsimp only [Pt.U, Pt.locs, Pt.cells, Pt.slots] at X204 l204 y204 z204 st204 hQ204
  obtain rfl : k204 = 0 := y204
  obtain rfl : n204 = 0 := z204
  obtain ⟨rfl, N204q, e204⟩ := hQ204
  have N204 : Fr n0 L204 := by rw [l204]; exact Fr.app N0 N204q
  have G205 : Go p e below A0 (T204.setTop (mkF m 4 #[.val (.ref a), .unset, .unset] [(.int 1)])) := fun tq kq => G203 tq (st204.trans kq)
  have G206 : Go p e below A0 (T204.setTop (mkF m 29 #[.val (.ref a), .unset, .unset] [(.int 0)])) := fun tq kq => G205 tq (by
    refine XS.ifYes X204.here hx rfl (pc0 := 4) (pc' := 28) rfl (hb hby d5_4) rfl (by decide) (by decide) (by decide) ?_
    refine XS.iconst X204.here hx rfl (hb hby d5_28) ?_
    exact kq)
  obtain ⟨fs, hr, hrun, hended, hW, hsame⟩ := X204.leave (v := some (.int (nar .boolean (0 : Int32)))) (fun h => by rw [Bd.returns] at h; cases h)
  refine ⟨_, _, (by rw [← hA0]; exact G206 _ (retN X204 hx (t := .boolean) Bd.returns (by simp) (hb hby d5_29) hr)), hrun, hended, _, _, rfl, ?_, ⟨_, rfl⟩, hW, hsame.mono (by decide) (by decide)⟩
  exact ⟨(by rw [show own_b False = (0 : Int32) from by simp only [own_b, not_true_eq_false, not_false_eq_true, if_true, if_false, or_true, true_or, or_false, false_or, and_true, true_and, and_false, false_and, and_self, or_self]]; rfl), N204, e204⟩
def Sn1 (Z : State) (h : Heap) (a : Addr) (u0 : Int32) : Prop := ∃ b kb, Fld Z h a "java/lang/String" "value" "[B" (.ref b) ∧ ((¬ (255 : Int32) < u0 ∧ Fld Z h a "java/lang/String" "coder" "B" (.int 0) ∧ Af Z h b kb .byte (1 : Int32) (fun j => .int (own_by ((own_cf u0 u0 u0) j)))) ∨ (Fld Z h a "java/lang/String" "coder" "B" (.int 1) ∧ Af Z h b kb .byte (2 : Int32) (fun j => .int (own_ub (own_cf u0 u0 u0) j))))
set_option maxRecDepth 65536 in
set_option maxHeartbeats 40000000 in
theorem rmV1 (l : Launch) (Z : State) (a0 : Array Value) (hw : ∀ d ∈ tables_1, d.before a0 Z = true) (ws : List Jvm.Cond) (a : Addr) (u0 : Int32) (cs : Int32) (fo : Value) (h0 : Heap) (n0 : Nat) (Z0 : n0 ≤ h0.size) (E : Exa Z h0 a "java/lang/String") (hs_ : Sn1 Z h0 a u0) (ru0 : own_R u0) (hCS : Sta Z Z.heap "java/lang/String" "COMPACT_STRINGS" "Z" (.int cs)) (hcs : ¬ cs = (0 : Int32)) (hSF : Sta Z Z.heap "jdk/internal/util/Preconditions" "SIOOBE_FORMATTER" "Ljava/util/function/BiFunction;" fo) (hfo : fo.isRef = true) (hAD : Sta Z Z.heap "java/lang/StringUTF16" "$assertionsDisabled" "Z" (.int 1)) (hHI : Sta Z Z.heap "java/lang/StringUTF16" "HI_BYTE_SHIFT" "I" (.int 0)) (hLO : Sta Z Z.heap "java/lang/StringUTF16" "LO_BYTE_SHIFT" "I" (.int 8)) (hold : Old Z n0 h0) :
    MetFree l (⟨"com/example/role_delegation/roledelegation/Names", "isValid", "(Ljava/lang/String;)Z"⟩ : MethodName) (head1 (Jvm.Cond.code (⟨"com/example/role_delegation/roledelegation/Names", "isValid", "(Ljava/lang/String;)Z"⟩ : MethodName) prog_38_method_2_code 3 (some .boolean) :: ws) (Rm 5 0 0 66)) (fun aa UU => aa = #[(.ref a)] ∧ Z.Warmed39 UU.vm ∧ UU.heap = h0) (fun _ _ _ _ _ => True) (fun _ UU oo U' => ∃ v L, oo = .returned v ∧ Qr (.int (own_b (own_ld u0))) h0 n0 v U'.heap L ∧ FrameEnd UU oo U' L (Rm 5 0 0 66).cells (Rm 5 0 0 66).slots) := by
  refine MetFree.of_bodySF (plainFor_of_name pn_4) hisR ?_
  intro p e s m args below meth c s₁ Bd hml0 hP hK
  obtain ⟨rfl, hZ, hh⟩ := hP
  have hx := Bd.exec
  have hby := Bd.bytes
  have hml : c.maxLocals = 3 := hml0
  have hown : s.vm.findClass "com/example/role_delegation/roledelegation/Names" = some m.cls := findClass_of_methodNamed Bd.named
  have hnm := (name_of_methodNamed Bd.named Bd.method).1
  have X0 : Stand p l e (Rm 5 0 0 66) s m #[(.ref a)] below meth c s₁ [] 0 0 := Stand.of_body Bd
  have e0 : s₁.heap = h0 := by rw [← hh, Bd.state]; rfl
  have N0 := Fr.nil n0
  obtain ⟨A0, hA0⟩ : ∃ A, A = s₁.setTop (entryFrame m #[(.ref a)] 3) := ⟨_, rfl⟩
  have G0 : Go p e below A0 (s₁.setTop (mkF m 0 #[.val (.ref a), .unset, .unset] [])) := fun tq kq => by rw [hA0]; exact castTop (ef_rmV1 m a) kq
  obtain ⟨b, kb, Fv, hd⟩ := hs_
  rcases hd with ⟨lu0, Fc, Ab⟩ | ⟨Fc, Ab⟩
  · skip
    have G207 : Go p e below A0 (s₁.setTop (mkF m 1 #[.val (.ref a), .unset, .unset] [(.ref a)])) := fun tq kq => G0 tq (by
      refine XS.aloadN X0.here hx rfl (hb hby d5_0) rfl rfl ?_
      exact kq)
    obtain ⟨cq208, kq208, q208a, q208b, q208c⟩ := isOf hZ e0 E
    obtain ⟨_, _, ⟨T208, L208, k208, n208⟩, -, X208, ⟨Lc208, hQ208, l208, y208, z208⟩, st208⟩ := X0.virtualBack hx (y := (⟨"java/lang/String", "isEmpty", "()Z"⟩ : MethodName)) (z := (⟨"java/lang/String", "isEmpty", "()Z"⟩ : MethodName)) hown (mvT hZ (wd hw 32 rfl)) (mvT hZ (wd hw 33 rfl)) (notFace_of_selects (args := #[]) (mvT hZ (wd hw 35 rfl))) (mvT hZ (wd hw 35 rfl)) (mvT hZ (wd hw 34 rfl)) (by decide) (backOf (W := 0) (rmIEL l Z a0 hw [] a b kb (own_cf u0 u0 u0) (1 : Int32) (2 : Int32) cs fo h0 n0 Z0 E Fv Fc Ab (by decide) hCS hcs hSF hfo hAD hHI hLO hold) hZ (wd hw 36 rfl) (wd hw 8 rfl) (by decide) (by decide)) q208a q208c (g := (mkF m 1 #[.val (.ref a), .unset, .unset] [(.ref a)])) rfl (by rw [hml]; rfl) (Steps.refl _) (argsL := []) (rest := []) (lenOf pd_6 rfl) rfl (by show 2 * 0 + _ ≤ _; exact Nat.le_of_eq rfl) (hb hby d5_1) (fun _ _ => ⟨rfl, e0, (by decide : 0 + 0 ≤ _), (by decide : 0 + 0 ≤ _)⟩)
    dsimp only [Pt.U, Pt.locs, Pt.cells, Pt.slots] at X208 l208 y208 z208 st208 hQ208
    obtain rfl : k208 = 0 := y208
    obtain rfl : n208 = 0 := z208
    obtain ⟨rfl, N208q, e208⟩ := hQ208
    have N208 : Fr n0 L208 := by rw [l208]; exact Fr.app N0 N208q
    have G209 : Go p e below A0 (T208.setTop (mkF m 4 #[.val (.ref a), .unset, .unset] [(.int 0)])) := fun tq kq => G207 tq (st208.trans kq)
    have G210 : Go p e below A0 (T208.setTop (mkF m 8 #[.val (.ref a), .unset, .unset] [(.ref a)])) := fun tq kq => G209 tq (by
      refine XS.ifNo X208.here hx rfl (hb hby d5_4) rfl (by decide) ?_
      refine XS.aloadN X208.here hx rfl (hb hby d5_7) rfl rfl ?_
      exact kq)
    obtain ⟨cq211, kq211, q211a, q211b, q211c⟩ := isOf hZ e208 E
    obtain ⟨_, _, ⟨T211, L211, k211, n211⟩, -, X211, ⟨Lc211, hQ211, l211, y211, z211⟩, st211⟩ := X208.virtualBack hx (y := (⟨"java/lang/String", "length", "()I"⟩ : MethodName)) (z := (⟨"java/lang/String", "length", "()I"⟩ : MethodName)) hown (mvT hZ (wd hw 51 rfl)) (mvT hZ (wd hw 52 rfl)) (notFace_of_selects (args := #[]) (mvT hZ (wd hw 54 rfl))) (mvT hZ (wd hw 54 rfl)) (mvT hZ (wd hw 53 rfl)) (by decide) (backOf (W := 0) (rmLeL l Z a0 hw [] a b kb (own_cf u0 u0 u0) (1 : Int32) (2 : Int32) cs fo h0 n0 Z0 E Fv Fc Ab ⟨by decide, by decide, by decide⟩ hCS hcs hSF hfo hAD hHI hLO hold) hZ (wd hw 55 rfl) (wd hw 8 rfl) (by decide) (by decide)) q211a q211c (g := (mkF m 8 #[.val (.ref a), .unset, .unset] [(.ref a)])) rfl (by rw [hml]; rfl) (Steps.refl _) (argsL := []) (rest := []) (lenOf pd_8 rfl) rfl (by show 2 * 0 + _ ≤ _; exact Nat.le_of_eq rfl) (hb hby d5_8) (fun _ _ => ⟨rfl, e208, (by decide : 0 + 0 ≤ _), (by decide : 0 + 0 ≤ _)⟩)
    dsimp only [Pt.U, Pt.locs, Pt.cells, Pt.slots] at X211 l211 y211 z211 st211 hQ211
    obtain rfl : k211 = 0 := y211
    obtain rfl : n211 = 0 := z211
    obtain ⟨rfl, N211q, e211⟩ := hQ211
    have N211 : Fr n0 L211 := by rw [l211]; exact Fr.app N208 N211q
    have G212 : Go p e below A0 (T211.setTop (mkF m 11 #[.val (.ref a), .unset, .unset] [(.int 1)])) := fun tq kq => G210 tq (st211.trans kq)
    have G213 : Go p e below A0 (T211.setTop (mkF m 19 #[.val (.ref a), .unset, .unset] [(.int 0), (.ref a)])) := fun tq kq => G212 tq (by
      refine XS.sipush X211.here hx rfl (hb hby d5_11) ?_
      refine XS.icmpNo X211.here hx rfl (hb hby d5_14) rfl (by decide) ?_
      refine XS.aloadN X211.here hx rfl (hb hby d5_17) rfl rfl ?_
      refine XS.iconst X211.here hx rfl (hb hby d5_18) ?_
      exact kq)
    obtain ⟨cq214, kq214, q214a, q214b, q214c⟩ := isOf hZ e211 E
    obtain ⟨_, _, ⟨T214, L214, k214, n214⟩, -, X214, ⟨Lc214, hQ214, l214, y214, z214⟩, st214⟩ := X211.virtualBack hx (y := (⟨"java/lang/String", "charAt", "(I)C"⟩ : MethodName)) (z := (⟨"java/lang/String", "charAt", "(I)C"⟩ : MethodName)) hown (mvT hZ (wd hw 61 rfl)) (mvT hZ (wd hw 62 rfl)) (notFace_of_selects (args := #[]) (mvT hZ (wd hw 64 rfl))) (mvT hZ (wd hw 64 rfl)) (mvT hZ (wd hw 63 rfl)) (by decide) (backOf (W := 0) (rmCAL l Z a0 hw [] a b kb (own_cf u0 u0 u0) (0 : Int32) (1 : Int32) (2 : Int32) cs fo h0 n0 Z0 E Fv Fc Ab ⟨by decide, by decide, by decide⟩ ⟨by decide, by decide⟩ ru0 lu0 hCS hcs hSF hfo hAD hHI hLO hold) hZ (wd hw 65 rfl) (wd hw 8 rfl) (by decide) (by decide)) q214a q214c (g := (mkF m 19 #[.val (.ref a), .unset, .unset] [(.int 0), (.ref a)])) rfl (by rw [hml]; rfl) (Steps.refl _) (argsL := [(.int 0)]) (rest := []) (lenOf pd_9 rfl) rfl (by show 2 * 0 + _ ≤ _; exact Nat.le_of_eq rfl) (hb hby d5_19) (fun _ _ => ⟨rfl, e211, (by decide : 0 + 0 ≤ _), (by decide : 0 + 0 ≤ _)⟩)
    dsimp only [Pt.U, Pt.locs, Pt.cells, Pt.slots] at X214 l214 y214 z214 st214 hQ214
    obtain rfl : k214 = 0 := y214
    obtain rfl : n214 = 0 := z214
    obtain ⟨rfl, N214q, e214⟩ := hQ214
    have N214 : Fr n0 L214 := by rw [l214]; exact Fr.app N211 N214q
    have G215 : Go p e below A0 (T214.setTop (mkF m 22 #[.val (.ref a), .unset, .unset] [(.int u0)])) := fun tq kq => G213 tq (st214.trans kq)
    obtain ⟨_, _, ⟨T216, L216, k216, n216⟩, -, X216, ⟨Lc216, hQ216, l216, y216, z216⟩, st216⟩ := Jvm.LawKit.callS X214 hx (y := (⟨"com/example/role_delegation/roledelegation/Names", "isLetterOrDigit", "(C)Z"⟩ : MethodName)) hown (mvT hZ (wd hw 83 rfl)) (mvT hZ (wd hw 84 rfl)) (mvT hZ (wd hw 30 rfl)) (mvT hZ (wd hw 85 rfl)) (by decide) (backOf (W := 0) (rmLD l Z a0 hw [] u0 h0 n0 Z0 ) hZ (wd hw 85 rfl) (wd hw 30 rfl) (by decide) (by decide)) (g := (mkF m 22 #[.val (.ref a), .unset, .unset] [(.int u0)])) rfl (by rw [hml]; rfl) (argsL := [(.int u0)]) (rest := []) (lenOf pd_7 rfl) rfl (by show 2 * 0 + _ ≤ _; exact Nat.le_of_eq rfl) (hb hby d5_22) (fun _ _ => ⟨rfl, e214, (by decide : 0 + 0 ≤ _), (by decide : 0 + 0 ≤ _)⟩)
    dsimp only [Pt.U, Pt.locs, Pt.cells, Pt.slots] at X216 l216 y216 z216 st216 hQ216
    obtain rfl : k216 = 0 := y216
    obtain rfl : n216 = 0 := z216
    obtain ⟨rfl, N216q, e216⟩ := hQ216
    have N216 : Fr n0 L216 := by rw [l216]; exact Fr.app N214 N216q
    have G217 : Go p e below A0 (T216.setTop (mkF m 25 #[.val (.ref a), .unset, .unset] [(.int (own_b (own_ld u0)))])) := fun tq kq => G215 tq (st216 _ kq)
    by_cases hc218 : (own_ld u0)
    · have G219 : Go p e below A0 (T216.setTop (mkF m 34 #[.val (.ref a), .val (.int 1), .unset] [(.ref a), (.int 1)])) := fun tq kq => G217 tq (by
        refine XS.ifYes X216.here hx rfl (pc0 := 25) (pc' := 30) rfl (hb hby d5_25) rfl ((if0 _ _).trans (feq (own_b1 hc218)).2) (by decide) (by decide) ?_
        refine XS.iconst X216.here hx rfl (hb hby d5_30) ?_
        refine XS.istoreN X216.here hx rfl (hb hby d5_31) rfl (l' := #[.val (.ref a), .val (.int 1), .unset]) rfl ?_
        refine XS.iloadN X216.here hx rfl (hb hby d5_32) rfl ?_
        refine XS.aloadN X216.here hx rfl (hb hby d5_33) rfl rfl ?_
        exact kq)
      obtain ⟨cq220, kq220, q220a, q220b, q220c⟩ := isOf hZ e216 E
      obtain ⟨_, _, ⟨T220, L220, k220, n220⟩, -, X220, ⟨Lc220, hQ220, l220, y220, z220⟩, st220⟩ := X216.virtualBack hx (y := (⟨"java/lang/String", "length", "()I"⟩ : MethodName)) (z := (⟨"java/lang/String", "length", "()I"⟩ : MethodName)) hown (mvT hZ (wd hw 51 rfl)) (mvT hZ (wd hw 52 rfl)) (notFace_of_selects (args := #[]) (mvT hZ (wd hw 54 rfl))) (mvT hZ (wd hw 54 rfl)) (mvT hZ (wd hw 53 rfl)) (by decide) (backOf (W := 1) (rmLeL l Z a0 hw [] a b kb (own_cf u0 u0 u0) (1 : Int32) (2 : Int32) cs fo h0 n0 Z0 E Fv Fc Ab ⟨by decide, by decide, by decide⟩ hCS hcs hSF hfo hAD hHI hLO hold) hZ (wd hw 55 rfl) (wd hw 8 rfl) (by decide) (by decide)) q220a q220c (g := (mkF m 34 #[.val (.ref a), .val (.int 1), .unset] [(.ref a), (.int 1)])) rfl (by rw [hml]; rfl) (Steps.refl _) (argsL := []) (rest := [(.int 1)]) (lenOf pd_8 rfl) rfl (by show 2 * 0 + _ ≤ _; exact Nat.le_of_eq rfl) (hb hby d5_34) (fun _ _ => ⟨rfl, e216, (by decide : 0 + 0 ≤ _), (by decide : 0 + 0 ≤ _)⟩)
      dsimp only [Pt.U, Pt.locs, Pt.cells, Pt.slots] at X220 l220 y220 z220 st220 hQ220
      obtain rfl : k220 = 0 := y220
      obtain rfl : n220 = 0 := z220
      obtain ⟨rfl, N220q, e220⟩ := hQ220
      have N220 : Fr n0 L220 := by rw [l220]; exact Fr.app N216 N220q
      have G221 : Go p e below A0 (T220.setTop (mkF m 37 #[.val (.ref a), .val (.int 1), .unset] [(.int 1), (.int 1)])) := fun tq kq => G219 tq (st220.trans kq)
      have G222 : Go p e below A0 (T220.setTop (mkF m 86 #[.val (.ref a), .val (.int 1), .unset] [(.int 1)])) := fun tq kq => G221 tq (by
        refine XS.icmpYes X220.here hx rfl (pc0 := 37) (pc' := 85) rfl (hb hby d5_37) rfl (by decide) (by decide) (by decide) ?_
        refine XS.iconst X220.here hx rfl (hb hby d5_85) ?_
        exact kq)
      obtain ⟨fs, hr, hrun, hended, hW, hsame⟩ := X220.leave (v := some (.int (nar .boolean (1 : Int32)))) (fun h => by rw [Bd.returns] at h; cases h)
      refine ⟨_, _, (by rw [← hA0]; exact G222 _ (retN X220 hx (t := .boolean) Bd.returns (by simp) (hb hby d5_86) hr)), hrun, hended, _, _, rfl, ?_, ⟨_, rfl⟩, hW, hsame.mono (by decide) (by decide)⟩
      exact ⟨(by rw [show own_b (own_ld u0) = (1 : Int32) from by simp only [own_b, hc218, not_true_eq_false, not_false_eq_true, if_true, if_false, or_true, true_or, or_false, false_or, and_true, true_and, and_false, false_and, and_self, or_self]]; rfl), N220, e220⟩
    · have G223 : Go p e below A0 (T216.setTop (mkF m 29 #[.val (.ref a), .unset, .unset] [(.int 0)])) := fun tq kq => G217 tq (by
        refine XS.ifNo X216.here hx rfl (hb hby d5_25) rfl ((if0 _ _).trans (teq (own_b0 hc218)).2) ?_
        refine XS.iconst X216.here hx rfl (hb hby d5_28) ?_
        exact kq)
      obtain ⟨fs, hr, hrun, hended, hW, hsame⟩ := X216.leave (v := some (.int (nar .boolean (0 : Int32)))) (fun h => by rw [Bd.returns] at h; cases h)
      refine ⟨_, _, (by rw [← hA0]; exact G223 _ (retN X216 hx (t := .boolean) Bd.returns (by simp) (hb hby d5_29) hr)), hrun, hended, _, _, rfl, ?_, ⟨_, rfl⟩, hW, hsame.mono (by decide) (by decide)⟩
      exact ⟨(by rw [show own_b (own_ld u0) = (0 : Int32) from by simp only [own_b, hc218, not_true_eq_false, not_false_eq_true, if_true, if_false, or_true, true_or, or_false, false_or, and_true, true_and, and_false, false_and, and_self, or_self]]; rfl), N216, e216⟩
  · skip
    have G224 : Go p e below A0 (s₁.setTop (mkF m 1 #[.val (.ref a), .unset, .unset] [(.ref a)])) := fun tq kq => G0 tq (by
      refine XS.aloadN X0.here hx rfl (hb hby d5_0) rfl rfl ?_
      exact kq)
    obtain ⟨cq225, kq225, q225a, q225b, q225c⟩ := isOf hZ e0 E
    obtain ⟨_, _, ⟨T225, L225, k225, n225⟩, -, X225, ⟨Lc225, hQ225, l225, y225, z225⟩, st225⟩ := X0.virtualBack hx (y := (⟨"java/lang/String", "isEmpty", "()Z"⟩ : MethodName)) (z := (⟨"java/lang/String", "isEmpty", "()Z"⟩ : MethodName)) hown (mvT hZ (wd hw 32 rfl)) (mvT hZ (wd hw 33 rfl)) (notFace_of_selects (args := #[]) (mvT hZ (wd hw 35 rfl))) (mvT hZ (wd hw 35 rfl)) (mvT hZ (wd hw 34 rfl)) (by decide) (backOf (W := 0) (rmIEU l Z a0 hw [] a b kb (own_cf u0 u0 u0) (1 : Int32) (2 : Int32) cs fo h0 n0 Z0 E Fv Fc Ab (by decide) hCS hcs hSF hfo hAD hHI hLO hold) hZ (wd hw 36 rfl) (wd hw 8 rfl) (by decide) (by decide)) q225a q225c (g := (mkF m 1 #[.val (.ref a), .unset, .unset] [(.ref a)])) rfl (by rw [hml]; rfl) (Steps.refl _) (argsL := []) (rest := []) (lenOf pd_6 rfl) rfl (by show 2 * 0 + _ ≤ _; exact Nat.le_of_eq rfl) (hb hby d5_1) (fun _ _ => ⟨rfl, e0, (by decide : 0 + 0 ≤ _), (by decide : 0 + 0 ≤ _)⟩)
    dsimp only [Pt.U, Pt.locs, Pt.cells, Pt.slots] at X225 l225 y225 z225 st225 hQ225
    obtain rfl : k225 = 0 := y225
    obtain rfl : n225 = 0 := z225
    obtain ⟨rfl, N225q, e225⟩ := hQ225
    have N225 : Fr n0 L225 := by rw [l225]; exact Fr.app N0 N225q
    have G226 : Go p e below A0 (T225.setTop (mkF m 4 #[.val (.ref a), .unset, .unset] [(.int 0)])) := fun tq kq => G224 tq (st225.trans kq)
    have G227 : Go p e below A0 (T225.setTop (mkF m 8 #[.val (.ref a), .unset, .unset] [(.ref a)])) := fun tq kq => G226 tq (by
      refine XS.ifNo X225.here hx rfl (hb hby d5_4) rfl (by decide) ?_
      refine XS.aloadN X225.here hx rfl (hb hby d5_7) rfl rfl ?_
      exact kq)
    obtain ⟨cq228, kq228, q228a, q228b, q228c⟩ := isOf hZ e225 E
    obtain ⟨_, _, ⟨T228, L228, k228, n228⟩, -, X228, ⟨Lc228, hQ228, l228, y228, z228⟩, st228⟩ := X225.virtualBack hx (y := (⟨"java/lang/String", "length", "()I"⟩ : MethodName)) (z := (⟨"java/lang/String", "length", "()I"⟩ : MethodName)) hown (mvT hZ (wd hw 51 rfl)) (mvT hZ (wd hw 52 rfl)) (notFace_of_selects (args := #[]) (mvT hZ (wd hw 54 rfl))) (mvT hZ (wd hw 54 rfl)) (mvT hZ (wd hw 53 rfl)) (by decide) (backOf (W := 0) (rmLeU l Z a0 hw [] a b kb (own_cf u0 u0 u0) (1 : Int32) (2 : Int32) cs fo h0 n0 Z0 E Fv Fc Ab ⟨by decide, by decide, by decide⟩ hCS hcs hSF hfo hAD hHI hLO hold) hZ (wd hw 55 rfl) (wd hw 8 rfl) (by decide) (by decide)) q228a q228c (g := (mkF m 8 #[.val (.ref a), .unset, .unset] [(.ref a)])) rfl (by rw [hml]; rfl) (Steps.refl _) (argsL := []) (rest := []) (lenOf pd_8 rfl) rfl (by show 2 * 0 + _ ≤ _; exact Nat.le_of_eq rfl) (hb hby d5_8) (fun _ _ => ⟨rfl, e225, (by decide : 0 + 0 ≤ _), (by decide : 0 + 0 ≤ _)⟩)
    dsimp only [Pt.U, Pt.locs, Pt.cells, Pt.slots] at X228 l228 y228 z228 st228 hQ228
    obtain rfl : k228 = 0 := y228
    obtain rfl : n228 = 0 := z228
    obtain ⟨rfl, N228q, e228⟩ := hQ228
    have N228 : Fr n0 L228 := by rw [l228]; exact Fr.app N225 N228q
    have G229 : Go p e below A0 (T228.setTop (mkF m 11 #[.val (.ref a), .unset, .unset] [(.int 1)])) := fun tq kq => G227 tq (st228.trans kq)
    have G230 : Go p e below A0 (T228.setTop (mkF m 19 #[.val (.ref a), .unset, .unset] [(.int 0), (.ref a)])) := fun tq kq => G229 tq (by
      refine XS.sipush X228.here hx rfl (hb hby d5_11) ?_
      refine XS.icmpNo X228.here hx rfl (hb hby d5_14) rfl (by decide) ?_
      refine XS.aloadN X228.here hx rfl (hb hby d5_17) rfl rfl ?_
      refine XS.iconst X228.here hx rfl (hb hby d5_18) ?_
      exact kq)
    obtain ⟨cq231, kq231, q231a, q231b, q231c⟩ := isOf hZ e228 E
    obtain ⟨_, _, ⟨T231, L231, k231, n231⟩, -, X231, ⟨Lc231, hQ231, l231, y231, z231⟩, st231⟩ := X228.virtualBack hx (y := (⟨"java/lang/String", "charAt", "(I)C"⟩ : MethodName)) (z := (⟨"java/lang/String", "charAt", "(I)C"⟩ : MethodName)) hown (mvT hZ (wd hw 61 rfl)) (mvT hZ (wd hw 62 rfl)) (notFace_of_selects (args := #[]) (mvT hZ (wd hw 64 rfl))) (mvT hZ (wd hw 64 rfl)) (mvT hZ (wd hw 63 rfl)) (by decide) (backOf (W := 0) (rmCAU l Z a0 hw [] a b kb (own_cf u0 u0 u0) (0 : Int32) (1 : Int32) (2 : Int32) cs fo h0 n0 Z0 E Fv Fc Ab ⟨by decide, by decide, by decide⟩ ⟨by decide, by decide⟩ ru0  hCS hcs hSF hfo hAD hHI hLO hold) hZ (wd hw 65 rfl) (wd hw 8 rfl) (by decide) (by decide)) q231a q231c (g := (mkF m 19 #[.val (.ref a), .unset, .unset] [(.int 0), (.ref a)])) rfl (by rw [hml]; rfl) (Steps.refl _) (argsL := [(.int 0)]) (rest := []) (lenOf pd_9 rfl) rfl (by show 2 * 0 + _ ≤ _; exact Nat.le_of_eq rfl) (hb hby d5_19) (fun _ _ => ⟨rfl, e228, (by decide : 0 + 0 ≤ _), (by decide : 0 + 0 ≤ _)⟩)
    dsimp only [Pt.U, Pt.locs, Pt.cells, Pt.slots] at X231 l231 y231 z231 st231 hQ231
    obtain rfl : k231 = 0 := y231
    obtain rfl : n231 = 0 := z231
    obtain ⟨rfl, N231q, e231⟩ := hQ231
    have N231 : Fr n0 L231 := by rw [l231]; exact Fr.app N228 N231q
    have G232 : Go p e below A0 (T231.setTop (mkF m 22 #[.val (.ref a), .unset, .unset] [(.int u0)])) := fun tq kq => G230 tq (st231.trans kq)
    obtain ⟨_, _, ⟨T233, L233, k233, n233⟩, -, X233, ⟨Lc233, hQ233, l233, y233, z233⟩, st233⟩ := Jvm.LawKit.callS X231 hx (y := (⟨"com/example/role_delegation/roledelegation/Names", "isLetterOrDigit", "(C)Z"⟩ : MethodName)) hown (mvT hZ (wd hw 83 rfl)) (mvT hZ (wd hw 84 rfl)) (mvT hZ (wd hw 30 rfl)) (mvT hZ (wd hw 85 rfl)) (by decide) (backOf (W := 0) (rmLD l Z a0 hw [] u0 h0 n0 Z0 ) hZ (wd hw 85 rfl) (wd hw 30 rfl) (by decide) (by decide)) (g := (mkF m 22 #[.val (.ref a), .unset, .unset] [(.int u0)])) rfl (by rw [hml]; rfl) (argsL := [(.int u0)]) (rest := []) (lenOf pd_7 rfl) rfl (by show 2 * 0 + _ ≤ _; exact Nat.le_of_eq rfl) (hb hby d5_22) (fun _ _ => ⟨rfl, e231, (by decide : 0 + 0 ≤ _), (by decide : 0 + 0 ≤ _)⟩)
    dsimp only [Pt.U, Pt.locs, Pt.cells, Pt.slots] at X233 l233 y233 z233 st233 hQ233
    obtain rfl : k233 = 0 := y233
    obtain rfl : n233 = 0 := z233
    obtain ⟨rfl, N233q, e233⟩ := hQ233
    have N233 : Fr n0 L233 := by rw [l233]; exact Fr.app N231 N233q
    have G234 : Go p e below A0 (T233.setTop (mkF m 25 #[.val (.ref a), .unset, .unset] [(.int (own_b (own_ld u0)))])) := fun tq kq => G232 tq (st233 _ kq)
    by_cases hc235 : (own_ld u0)
    · have G236 : Go p e below A0 (T233.setTop (mkF m 34 #[.val (.ref a), .val (.int 1), .unset] [(.ref a), (.int 1)])) := fun tq kq => G234 tq (by
        refine XS.ifYes X233.here hx rfl (pc0 := 25) (pc' := 30) rfl (hb hby d5_25) rfl ((if0 _ _).trans (feq (own_b1 hc235)).2) (by decide) (by decide) ?_
        refine XS.iconst X233.here hx rfl (hb hby d5_30) ?_
        refine XS.istoreN X233.here hx rfl (hb hby d5_31) rfl (l' := #[.val (.ref a), .val (.int 1), .unset]) rfl ?_
        refine XS.iloadN X233.here hx rfl (hb hby d5_32) rfl ?_
        refine XS.aloadN X233.here hx rfl (hb hby d5_33) rfl rfl ?_
        exact kq)
      obtain ⟨cq237, kq237, q237a, q237b, q237c⟩ := isOf hZ e233 E
      obtain ⟨_, _, ⟨T237, L237, k237, n237⟩, -, X237, ⟨Lc237, hQ237, l237, y237, z237⟩, st237⟩ := X233.virtualBack hx (y := (⟨"java/lang/String", "length", "()I"⟩ : MethodName)) (z := (⟨"java/lang/String", "length", "()I"⟩ : MethodName)) hown (mvT hZ (wd hw 51 rfl)) (mvT hZ (wd hw 52 rfl)) (notFace_of_selects (args := #[]) (mvT hZ (wd hw 54 rfl))) (mvT hZ (wd hw 54 rfl)) (mvT hZ (wd hw 53 rfl)) (by decide) (backOf (W := 1) (rmLeU l Z a0 hw [] a b kb (own_cf u0 u0 u0) (1 : Int32) (2 : Int32) cs fo h0 n0 Z0 E Fv Fc Ab ⟨by decide, by decide, by decide⟩ hCS hcs hSF hfo hAD hHI hLO hold) hZ (wd hw 55 rfl) (wd hw 8 rfl) (by decide) (by decide)) q237a q237c (g := (mkF m 34 #[.val (.ref a), .val (.int 1), .unset] [(.ref a), (.int 1)])) rfl (by rw [hml]; rfl) (Steps.refl _) (argsL := []) (rest := [(.int 1)]) (lenOf pd_8 rfl) rfl (by show 2 * 0 + _ ≤ _; exact Nat.le_of_eq rfl) (hb hby d5_34) (fun _ _ => ⟨rfl, e233, (by decide : 0 + 0 ≤ _), (by decide : 0 + 0 ≤ _)⟩)
      dsimp only [Pt.U, Pt.locs, Pt.cells, Pt.slots] at X237 l237 y237 z237 st237 hQ237
      obtain rfl : k237 = 0 := y237
      obtain rfl : n237 = 0 := z237
      obtain ⟨rfl, N237q, e237⟩ := hQ237
      have N237 : Fr n0 L237 := by rw [l237]; exact Fr.app N233 N237q
      have G238 : Go p e below A0 (T237.setTop (mkF m 37 #[.val (.ref a), .val (.int 1), .unset] [(.int 1), (.int 1)])) := fun tq kq => G236 tq (st237.trans kq)
      have G239 : Go p e below A0 (T237.setTop (mkF m 86 #[.val (.ref a), .val (.int 1), .unset] [(.int 1)])) := fun tq kq => G238 tq (by
        refine XS.icmpYes X237.here hx rfl (pc0 := 37) (pc' := 85) rfl (hb hby d5_37) rfl (by decide) (by decide) (by decide) ?_
        refine XS.iconst X237.here hx rfl (hb hby d5_85) ?_
        exact kq)
      obtain ⟨fs, hr, hrun, hended, hW, hsame⟩ := X237.leave (v := some (.int (nar .boolean (1 : Int32)))) (fun h => by rw [Bd.returns] at h; cases h)
      refine ⟨_, _, (by rw [← hA0]; exact G239 _ (retN X237 hx (t := .boolean) Bd.returns (by simp) (hb hby d5_86) hr)), hrun, hended, _, _, rfl, ?_, ⟨_, rfl⟩, hW, hsame.mono (by decide) (by decide)⟩
      exact ⟨(by rw [show own_b (own_ld u0) = (1 : Int32) from by simp only [own_b, hc235, not_true_eq_false, not_false_eq_true, if_true, if_false, or_true, true_or, or_false, false_or, and_true, true_and, and_false, false_and, and_self, or_self]]; rfl), N237, e237⟩
    · have G240 : Go p e below A0 (T233.setTop (mkF m 29 #[.val (.ref a), .unset, .unset] [(.int 0)])) := fun tq kq => G234 tq (by
        refine XS.ifNo X233.here hx rfl (hb hby d5_25) rfl ((if0 _ _).trans (teq (own_b0 hc235)).2) ?_
        refine XS.iconst X233.here hx rfl (hb hby d5_28) ?_
        exact kq)
      obtain ⟨fs, hr, hrun, hended, hW, hsame⟩ := X233.leave (v := some (.int (nar .boolean (0 : Int32)))) (fun h => by rw [Bd.returns] at h; cases h)
      refine ⟨_, _, (by rw [← hA0]; exact G240 _ (retN X233 hx (t := .boolean) Bd.returns (by simp) (hb hby d5_29) hr)), hrun, hended, _, _, rfl, ?_, ⟨_, rfl⟩, hW, hsame.mono (by decide) (by decide)⟩
      exact ⟨(by rw [show own_b (own_ld u0) = (0 : Int32) from by simp only [own_b, hc235, not_true_eq_false, not_false_eq_true, if_true, if_false, or_true, true_or, or_false, false_or, and_true, true_and, and_false, false_and, and_self, or_self]]; rfl), N233, e233⟩
def Sn2 (Z : State) (h : Heap) (a : Addr) (u0 u1 : Int32) : Prop := ∃ b kb, Fld Z h a "java/lang/String" "value" "[B" (.ref b) ∧ ((¬ (255 : Int32) < u0 ∧ ¬ (255 : Int32) < u1 ∧ Fld Z h a "java/lang/String" "coder" "B" (.int 0) ∧ Af Z h b kb .byte (2 : Int32) (fun j => .int (own_by ((own_cf u0 u1 u1) j)))) ∨ (Fld Z h a "java/lang/String" "coder" "B" (.int 1) ∧ Af Z h b kb .byte (4 : Int32) (fun j => .int (own_ub (own_cf u0 u1 u1) j))))
set_option maxRecDepth 65536 in
set_option maxHeartbeats 40000000 in
theorem rmV2 (l : Launch) (Z : State) (a0 : Array Value) (hw : ∀ d ∈ tables_1, d.before a0 Z = true) (ws : List Jvm.Cond) (a : Addr) (u0 u1 : Int32) (cs : Int32) (fo : Value) (h0 : Heap) (n0 : Nat) (Z0 : n0 ≤ h0.size) (E : Exa Z h0 a "java/lang/String") (hs_ : Sn2 Z h0 a u0 u1) (ru0 : own_R u0) (ru1 : own_R u1) (hCS : Sta Z Z.heap "java/lang/String" "COMPACT_STRINGS" "Z" (.int cs)) (hcs : ¬ cs = (0 : Int32)) (hSF : Sta Z Z.heap "jdk/internal/util/Preconditions" "SIOOBE_FORMATTER" "Ljava/util/function/BiFunction;" fo) (hfo : fo.isRef = true) (hAD : Sta Z Z.heap "java/lang/StringUTF16" "$assertionsDisabled" "Z" (.int 1)) (hHI : Sta Z Z.heap "java/lang/StringUTF16" "HI_BYTE_SHIFT" "I" (.int 0)) (hLO : Sta Z Z.heap "java/lang/StringUTF16" "LO_BYTE_SHIFT" "I" (.int 8)) (hold : Old Z n0 h0) :
    MetFree l (⟨"com/example/role_delegation/roledelegation/Names", "isValid", "(Ljava/lang/String;)Z"⟩ : MethodName) (head1 (Jvm.Cond.code (⟨"com/example/role_delegation/roledelegation/Names", "isValid", "(Ljava/lang/String;)Z"⟩ : MethodName) prog_38_method_2_code 3 (some .boolean) :: ws) (Rm 5 0 0 66)) (fun aa UU => aa = #[(.ref a)] ∧ Z.Warmed39 UU.vm ∧ UU.heap = h0) (fun _ _ _ _ _ => True) (fun _ UU oo U' => ∃ v L, oo = .returned v ∧ Qr (.int (own_b (own_ld u0 ∧ own_tl u1))) h0 n0 v U'.heap L ∧ FrameEnd UU oo U' L (Rm 5 0 0 66).cells (Rm 5 0 0 66).slots) := by
  refine MetFree.of_bodySF (plainFor_of_name pn_4) hisR ?_
  intro p e s m args below meth c s₁ Bd hml0 hP hK
  obtain ⟨rfl, hZ, hh⟩ := hP
  have hx := Bd.exec
  have hby := Bd.bytes
  have hml : c.maxLocals = 3 := hml0
  have hown : s.vm.findClass "com/example/role_delegation/roledelegation/Names" = some m.cls := findClass_of_methodNamed Bd.named
  have hnm := (name_of_methodNamed Bd.named Bd.method).1
  have X0 : Stand p l e (Rm 5 0 0 66) s m #[(.ref a)] below meth c s₁ [] 0 0 := Stand.of_body Bd
  have e0 : s₁.heap = h0 := by rw [← hh, Bd.state]; rfl
  have N0 := Fr.nil n0
  obtain ⟨A0, hA0⟩ : ∃ A, A = s₁.setTop (entryFrame m #[(.ref a)] 3) := ⟨_, rfl⟩
  have G0 : Go p e below A0 (s₁.setTop (mkF m 0 #[.val (.ref a), .unset, .unset] [])) := fun tq kq => by rw [hA0]; exact castTop (ef_rmV2 m a) kq
  obtain ⟨b, kb, Fv, hd⟩ := hs_
  rcases hd with ⟨lu0, lu1, Fc, Ab⟩ | ⟨Fc, Ab⟩
  · skip
    have G241 : Go p e below A0 (s₁.setTop (mkF m 1 #[.val (.ref a), .unset, .unset] [(.ref a)])) := fun tq kq => G0 tq (by
      refine XS.aloadN X0.here hx rfl (hb hby d5_0) rfl rfl ?_
      exact kq)
    obtain ⟨cq242, kq242, q242a, q242b, q242c⟩ := isOf hZ e0 E
    obtain ⟨_, _, ⟨T242, L242, k242, n242⟩, -, X242, ⟨Lc242, hQ242, l242, y242, z242⟩, st242⟩ := X0.virtualBack hx (y := (⟨"java/lang/String", "isEmpty", "()Z"⟩ : MethodName)) (z := (⟨"java/lang/String", "isEmpty", "()Z"⟩ : MethodName)) hown (mvT hZ (wd hw 32 rfl)) (mvT hZ (wd hw 33 rfl)) (notFace_of_selects (args := #[]) (mvT hZ (wd hw 35 rfl))) (mvT hZ (wd hw 35 rfl)) (mvT hZ (wd hw 34 rfl)) (by decide) (backOf (W := 0) (rmIEL l Z a0 hw [] a b kb (own_cf u0 u1 u1) (2 : Int32) (4 : Int32) cs fo h0 n0 Z0 E Fv Fc Ab (by decide) hCS hcs hSF hfo hAD hHI hLO hold) hZ (wd hw 36 rfl) (wd hw 8 rfl) (by decide) (by decide)) q242a q242c (g := (mkF m 1 #[.val (.ref a), .unset, .unset] [(.ref a)])) rfl (by rw [hml]; rfl) (Steps.refl _) (argsL := []) (rest := []) (lenOf pd_6 rfl) rfl (by show 2 * 0 + _ ≤ _; exact Nat.le_of_eq rfl) (hb hby d5_1) (fun _ _ => ⟨rfl, e0, (by decide : 0 + 0 ≤ _), (by decide : 0 + 0 ≤ _)⟩)
    dsimp only [Pt.U, Pt.locs, Pt.cells, Pt.slots] at X242 l242 y242 z242 st242 hQ242
    obtain rfl : k242 = 0 := y242
    obtain rfl : n242 = 0 := z242
    obtain ⟨rfl, N242q, e242⟩ := hQ242
    have N242 : Fr n0 L242 := by rw [l242]; exact Fr.app N0 N242q
    have G243 : Go p e below A0 (T242.setTop (mkF m 4 #[.val (.ref a), .unset, .unset] [(.int 0)])) := fun tq kq => G241 tq (st242.trans kq)
    have G244 : Go p e below A0 (T242.setTop (mkF m 8 #[.val (.ref a), .unset, .unset] [(.ref a)])) := fun tq kq => G243 tq (by
      refine XS.ifNo X242.here hx rfl (hb hby d5_4) rfl (by decide) ?_
      refine XS.aloadN X242.here hx rfl (hb hby d5_7) rfl rfl ?_
      exact kq)
    obtain ⟨cq245, kq245, q245a, q245b, q245c⟩ := isOf hZ e242 E
    obtain ⟨_, _, ⟨T245, L245, k245, n245⟩, -, X245, ⟨Lc245, hQ245, l245, y245, z245⟩, st245⟩ := X242.virtualBack hx (y := (⟨"java/lang/String", "length", "()I"⟩ : MethodName)) (z := (⟨"java/lang/String", "length", "()I"⟩ : MethodName)) hown (mvT hZ (wd hw 51 rfl)) (mvT hZ (wd hw 52 rfl)) (notFace_of_selects (args := #[]) (mvT hZ (wd hw 54 rfl))) (mvT hZ (wd hw 54 rfl)) (mvT hZ (wd hw 53 rfl)) (by decide) (backOf (W := 0) (rmLeL l Z a0 hw [] a b kb (own_cf u0 u1 u1) (2 : Int32) (4 : Int32) cs fo h0 n0 Z0 E Fv Fc Ab ⟨by decide, by decide, by decide⟩ hCS hcs hSF hfo hAD hHI hLO hold) hZ (wd hw 55 rfl) (wd hw 8 rfl) (by decide) (by decide)) q245a q245c (g := (mkF m 8 #[.val (.ref a), .unset, .unset] [(.ref a)])) rfl (by rw [hml]; rfl) (Steps.refl _) (argsL := []) (rest := []) (lenOf pd_8 rfl) rfl (by show 2 * 0 + _ ≤ _; exact Nat.le_of_eq rfl) (hb hby d5_8) (fun _ _ => ⟨rfl, e242, (by decide : 0 + 0 ≤ _), (by decide : 0 + 0 ≤ _)⟩)
    dsimp only [Pt.U, Pt.locs, Pt.cells, Pt.slots] at X245 l245 y245 z245 st245 hQ245
    obtain rfl : k245 = 0 := y245
    obtain rfl : n245 = 0 := z245
    obtain ⟨rfl, N245q, e245⟩ := hQ245
    have N245 : Fr n0 L245 := by rw [l245]; exact Fr.app N242 N245q
    have G246 : Go p e below A0 (T245.setTop (mkF m 11 #[.val (.ref a), .unset, .unset] [(.int 2)])) := fun tq kq => G244 tq (st245.trans kq)
    have G247 : Go p e below A0 (T245.setTop (mkF m 19 #[.val (.ref a), .unset, .unset] [(.int 0), (.ref a)])) := fun tq kq => G246 tq (by
      refine XS.sipush X245.here hx rfl (hb hby d5_11) ?_
      refine XS.icmpNo X245.here hx rfl (hb hby d5_14) rfl (by decide) ?_
      refine XS.aloadN X245.here hx rfl (hb hby d5_17) rfl rfl ?_
      refine XS.iconst X245.here hx rfl (hb hby d5_18) ?_
      exact kq)
    obtain ⟨cq248, kq248, q248a, q248b, q248c⟩ := isOf hZ e245 E
    obtain ⟨_, _, ⟨T248, L248, k248, n248⟩, -, X248, ⟨Lc248, hQ248, l248, y248, z248⟩, st248⟩ := X245.virtualBack hx (y := (⟨"java/lang/String", "charAt", "(I)C"⟩ : MethodName)) (z := (⟨"java/lang/String", "charAt", "(I)C"⟩ : MethodName)) hown (mvT hZ (wd hw 61 rfl)) (mvT hZ (wd hw 62 rfl)) (notFace_of_selects (args := #[]) (mvT hZ (wd hw 64 rfl))) (mvT hZ (wd hw 64 rfl)) (mvT hZ (wd hw 63 rfl)) (by decide) (backOf (W := 0) (rmCAL l Z a0 hw [] a b kb (own_cf u0 u1 u1) (0 : Int32) (2 : Int32) (4 : Int32) cs fo h0 n0 Z0 E Fv Fc Ab ⟨by decide, by decide, by decide⟩ ⟨by decide, by decide⟩ ru0 lu0 hCS hcs hSF hfo hAD hHI hLO hold) hZ (wd hw 65 rfl) (wd hw 8 rfl) (by decide) (by decide)) q248a q248c (g := (mkF m 19 #[.val (.ref a), .unset, .unset] [(.int 0), (.ref a)])) rfl (by rw [hml]; rfl) (Steps.refl _) (argsL := [(.int 0)]) (rest := []) (lenOf pd_9 rfl) rfl (by show 2 * 0 + _ ≤ _; exact Nat.le_of_eq rfl) (hb hby d5_19) (fun _ _ => ⟨rfl, e245, (by decide : 0 + 0 ≤ _), (by decide : 0 + 0 ≤ _)⟩)
    dsimp only [Pt.U, Pt.locs, Pt.cells, Pt.slots] at X248 l248 y248 z248 st248 hQ248
    obtain rfl : k248 = 0 := y248
    obtain rfl : n248 = 0 := z248
    obtain ⟨rfl, N248q, e248⟩ := hQ248
    have N248 : Fr n0 L248 := by rw [l248]; exact Fr.app N245 N248q
    have G249 : Go p e below A0 (T248.setTop (mkF m 22 #[.val (.ref a), .unset, .unset] [(.int u0)])) := fun tq kq => G247 tq (st248.trans kq)
    obtain ⟨_, _, ⟨T250, L250, k250, n250⟩, -, X250, ⟨Lc250, hQ250, l250, y250, z250⟩, st250⟩ := Jvm.LawKit.callS X248 hx (y := (⟨"com/example/role_delegation/roledelegation/Names", "isLetterOrDigit", "(C)Z"⟩ : MethodName)) hown (mvT hZ (wd hw 83 rfl)) (mvT hZ (wd hw 84 rfl)) (mvT hZ (wd hw 30 rfl)) (mvT hZ (wd hw 85 rfl)) (by decide) (backOf (W := 0) (rmLD l Z a0 hw [] u0 h0 n0 Z0 ) hZ (wd hw 85 rfl) (wd hw 30 rfl) (by decide) (by decide)) (g := (mkF m 22 #[.val (.ref a), .unset, .unset] [(.int u0)])) rfl (by rw [hml]; rfl) (argsL := [(.int u0)]) (rest := []) (lenOf pd_7 rfl) rfl (by show 2 * 0 + _ ≤ _; exact Nat.le_of_eq rfl) (hb hby d5_22) (fun _ _ => ⟨rfl, e248, (by decide : 0 + 0 ≤ _), (by decide : 0 + 0 ≤ _)⟩)
    dsimp only [Pt.U, Pt.locs, Pt.cells, Pt.slots] at X250 l250 y250 z250 st250 hQ250
    obtain rfl : k250 = 0 := y250
    obtain rfl : n250 = 0 := z250
    obtain ⟨rfl, N250q, e250⟩ := hQ250
    have N250 : Fr n0 L250 := by rw [l250]; exact Fr.app N248 N250q
    have G251 : Go p e below A0 (T250.setTop (mkF m 25 #[.val (.ref a), .unset, .unset] [(.int (own_b (own_ld u0)))])) := fun tq kq => G249 tq (st250 _ kq)
    by_cases hc252 : (own_ld u0)
    · have G253 : Go p e below A0 (T250.setTop (mkF m 34 #[.val (.ref a), .val (.int 1), .unset] [(.ref a), (.int 1)])) := fun tq kq => G251 tq (by
        refine XS.ifYes X250.here hx rfl (pc0 := 25) (pc' := 30) rfl (hb hby d5_25) rfl ((if0 _ _).trans (feq (own_b1 hc252)).2) (by decide) (by decide) ?_
        refine XS.iconst X250.here hx rfl (hb hby d5_30) ?_
        refine XS.istoreN X250.here hx rfl (hb hby d5_31) rfl (l' := #[.val (.ref a), .val (.int 1), .unset]) rfl ?_
        refine XS.iloadN X250.here hx rfl (hb hby d5_32) rfl ?_
        refine XS.aloadN X250.here hx rfl (hb hby d5_33) rfl rfl ?_
        exact kq)
      obtain ⟨cq254, kq254, q254a, q254b, q254c⟩ := isOf hZ e250 E
      obtain ⟨_, _, ⟨T254, L254, k254, n254⟩, -, X254, ⟨Lc254, hQ254, l254, y254, z254⟩, st254⟩ := X250.virtualBack hx (y := (⟨"java/lang/String", "length", "()I"⟩ : MethodName)) (z := (⟨"java/lang/String", "length", "()I"⟩ : MethodName)) hown (mvT hZ (wd hw 51 rfl)) (mvT hZ (wd hw 52 rfl)) (notFace_of_selects (args := #[]) (mvT hZ (wd hw 54 rfl))) (mvT hZ (wd hw 54 rfl)) (mvT hZ (wd hw 53 rfl)) (by decide) (backOf (W := 1) (rmLeL l Z a0 hw [] a b kb (own_cf u0 u1 u1) (2 : Int32) (4 : Int32) cs fo h0 n0 Z0 E Fv Fc Ab ⟨by decide, by decide, by decide⟩ hCS hcs hSF hfo hAD hHI hLO hold) hZ (wd hw 55 rfl) (wd hw 8 rfl) (by decide) (by decide)) q254a q254c (g := (mkF m 34 #[.val (.ref a), .val (.int 1), .unset] [(.ref a), (.int 1)])) rfl (by rw [hml]; rfl) (Steps.refl _) (argsL := []) (rest := [(.int 1)]) (lenOf pd_8 rfl) rfl (by show 2 * 0 + _ ≤ _; exact Nat.le_of_eq rfl) (hb hby d5_34) (fun _ _ => ⟨rfl, e250, (by decide : 0 + 0 ≤ _), (by decide : 0 + 0 ≤ _)⟩)
      dsimp only [Pt.U, Pt.locs, Pt.cells, Pt.slots] at X254 l254 y254 z254 st254 hQ254
      obtain rfl : k254 = 0 := y254
      obtain rfl : n254 = 0 := z254
      obtain ⟨rfl, N254q, e254⟩ := hQ254
      have N254 : Fr n0 L254 := by rw [l254]; exact Fr.app N250 N254q
      have G255 : Go p e below A0 (T254.setTop (mkF m 37 #[.val (.ref a), .val (.int 1), .unset] [(.int 2), (.int 1)])) := fun tq kq => G253 tq (st254.trans kq)
      have G256 : Go p e below A0 (T254.setTop (mkF m 42 #[.val (.ref a), .val (.int 1), .unset] [(.int 1), (.ref a)])) := fun tq kq => G255 tq (by
        refine XS.icmpNo X254.here hx rfl (hb hby d5_37) rfl (by decide) ?_
        refine XS.aloadN X254.here hx rfl (hb hby d5_40) rfl rfl ?_
        refine XS.iloadN X254.here hx rfl (hb hby d5_41) rfl ?_
        exact kq)
      obtain ⟨cq257, kq257, q257a, q257b, q257c⟩ := isOf hZ e254 E
      obtain ⟨_, _, ⟨T257, L257, k257, n257⟩, -, X257, ⟨Lc257, hQ257, l257, y257, z257⟩, st257⟩ := X254.virtualBack hx (y := (⟨"java/lang/String", "charAt", "(I)C"⟩ : MethodName)) (z := (⟨"java/lang/String", "charAt", "(I)C"⟩ : MethodName)) hown (mvT hZ (wd hw 61 rfl)) (mvT hZ (wd hw 62 rfl)) (notFace_of_selects (args := #[]) (mvT hZ (wd hw 64 rfl))) (mvT hZ (wd hw 64 rfl)) (mvT hZ (wd hw 63 rfl)) (by decide) (backOf (W := 0) (rmCAL l Z a0 hw [] a b kb (own_cf u0 u1 u1) (1 : Int32) (2 : Int32) (4 : Int32) cs fo h0 n0 Z0 E Fv Fc Ab ⟨by decide, by decide, by decide⟩ ⟨by decide, by decide⟩ ru1 lu1 hCS hcs hSF hfo hAD hHI hLO hold) hZ (wd hw 65 rfl) (wd hw 8 rfl) (by decide) (by decide)) q257a q257c (g := (mkF m 42 #[.val (.ref a), .val (.int 1), .unset] [(.int 1), (.ref a)])) rfl (by rw [hml]; rfl) (Steps.refl _) (argsL := [(.int 1)]) (rest := []) (lenOf pd_9 rfl) rfl (by show 2 * 0 + _ ≤ _; exact Nat.le_of_eq rfl) (hb hby d5_42) (fun _ _ => ⟨rfl, e254, (by decide : 0 + 0 ≤ _), (by decide : 0 + 0 ≤ _)⟩)
      dsimp only [Pt.U, Pt.locs, Pt.cells, Pt.slots] at X257 l257 y257 z257 st257 hQ257
      obtain rfl : k257 = 0 := y257
      obtain rfl : n257 = 0 := z257
      obtain ⟨rfl, N257q, e257⟩ := hQ257
      have N257 : Fr n0 L257 := by rw [l257]; exact Fr.app N254 N257q
      have G258 : Go p e below A0 (T257.setTop (mkF m 45 #[.val (.ref a), .val (.int 1), .unset] [(.int u1)])) := fun tq kq => G256 tq (st257.trans kq)
      have G260 : Go p e below A0 (T257.setTop (mkF m 46 #[.val (.ref a), .val (.int 1), .val (.int u1)] [])) := fun tq kq => G258 tq (by
        refine XS.istoreN X257.here hx rfl (hb hby d5_45) rfl (l' := #[.val (.ref a), .val (.int 1), .val (.int u1)]) rfl ?_
        exact kq)
      by_cases ht259 : own_tl u1
      · obtain ⟨T261, Lc261, X261, e261, N261, hG261, G261⟩ : ∃ (T261 : State) (Lc261 : List Loc) , Stand p l e (Rm 5 0 0 66) s m #[(.ref a)] below meth c T261 Lc261 0 0 ∧ T261.heap = h0 ∧ Fr n0 Lc261 ∧ (True) ∧ Go p e below A0 (T261.setTop (mkF m 79 #[.val (.ref a), .val (.int 1), .val (.int u1)] [])) := by
          have G262 : Go p e below A0 (T257.setTop (mkF m 47 #[.val (.ref a), .val (.int 1), .val (.int u1)] [(.int u1)])) := fun tq kq => G260 tq (by
            refine XS.iloadN X257.here hx rfl (hb hby d5_46) rfl ?_
            exact kq)
          obtain ⟨_, _, ⟨T263, L263, k263, n263⟩, -, X263, ⟨Lc263, hQ263, l263, y263, z263⟩, st263⟩ := Jvm.LawKit.callS X257 hx (y := (⟨"com/example/role_delegation/roledelegation/Names", "isLetterOrDigit", "(C)Z"⟩ : MethodName)) hown (mvT hZ (wd hw 83 rfl)) (mvT hZ (wd hw 84 rfl)) (mvT hZ (wd hw 30 rfl)) (mvT hZ (wd hw 85 rfl)) (by decide) (backOf (W := 0) (rmLD l Z a0 hw [] u1 h0 n0 Z0 ) hZ (wd hw 85 rfl) (wd hw 30 rfl) (by decide) (by decide)) (g := (mkF m 47 #[.val (.ref a), .val (.int 1), .val (.int u1)] [(.int u1)])) rfl (by rw [hml]; rfl) (argsL := [(.int u1)]) (rest := []) (lenOf pd_7 rfl) rfl (by show 2 * 0 + _ ≤ _; exact Nat.le_of_eq rfl) (hb hby d5_47) (fun _ _ => ⟨rfl, e257, (by decide : 0 + 0 ≤ _), (by decide : 0 + 0 ≤ _)⟩)
          dsimp only [Pt.U, Pt.locs, Pt.cells, Pt.slots] at X263 l263 y263 z263 st263 hQ263
          obtain rfl : k263 = 0 := y263
          obtain rfl : n263 = 0 := z263
          obtain ⟨rfl, N263q, e263⟩ := hQ263
          have N263 : Fr n0 L263 := by rw [l263]; exact Fr.app N257 N263q
          have G264 : Go p e below A0 (T263.setTop (mkF m 50 #[.val (.ref a), .val (.int 1), .val (.int u1)] [(.int (own_b (own_ld u1)))])) := fun tq kq => G262 tq (st263 _ kq)
          by_cases hc265 : (own_ld u1)
          · have G266 : Go p e below A0 (T263.setTop (mkF m 79 #[.val (.ref a), .val (.int 1), .val (.int u1)] [])) := fun tq kq => G264 tq (by
              refine XS.ifYes X263.here hx rfl (pc0 := 50) (pc' := 79) rfl (hb hby d5_50) rfl ((if0 _ _).trans (feq (own_b1 hc265)).2) (by decide) (by decide) ?_
              exact kq)
            exact ⟨T263, _, X263, e263, N263, (by trivial), G266⟩
          · have G267 : Go p e below A0 (T263.setTop (mkF m 56 #[.val (.ref a), .val (.int 1), .val (.int u1)] [(.int 95), (.int u1)])) := fun tq kq => G264 tq (by
              refine XS.ifNo X263.here hx rfl (hb hby d5_50) rfl ((if0 _ _).trans (teq (own_b0 hc265)).2) ?_
              refine XS.iloadN X263.here hx rfl (hb hby d5_53) rfl ?_
              refine XS.bipush X263.here hx rfl (hb hby d5_54) ?_
              exact kq)
            by_cases hc268 : u1 = (95 : Int32)
            · have G269 : Go p e below A0 (T263.setTop (mkF m 79 #[.val (.ref a), .val (.int 1), .val (.int u1)] [])) := fun tq kq => G267 tq (by
                refine XS.icmpYes X263.here hx rfl (pc0 := 56) (pc' := 79) rfl (hb hby d5_56) rfl (teq hc268).1 (by decide) (by decide) ?_
                exact kq)
              exact ⟨T263, _, X263, e263, N263, (by trivial), G269⟩
            · have G270 : Go p e below A0 (T263.setTop (mkF m 62 #[.val (.ref a), .val (.int 1), .val (.int u1)] [(.int 46), (.int u1)])) := fun tq kq => G267 tq (by
                refine XS.icmpNo X263.here hx rfl (hb hby d5_56) rfl (feq hc268).1 ?_
                refine XS.iloadN X263.here hx rfl (hb hby d5_59) rfl ?_
                refine XS.bipush X263.here hx rfl (hb hby d5_60) ?_
                exact kq)
              by_cases hc271 : u1 = (46 : Int32)
              · have G272 : Go p e below A0 (T263.setTop (mkF m 79 #[.val (.ref a), .val (.int 1), .val (.int u1)] [])) := fun tq kq => G270 tq (by
                  refine XS.icmpYes X263.here hx rfl (pc0 := 62) (pc' := 79) rfl (hb hby d5_62) rfl (teq hc271).1 (by decide) (by decide) ?_
                  exact kq)
                exact ⟨T263, _, X263, e263, N263, (by trivial), G272⟩
              · have G273 : Go p e below A0 (T263.setTop (mkF m 68 #[.val (.ref a), .val (.int 1), .val (.int u1)] [(.int 58), (.int u1)])) := fun tq kq => G270 tq (by
                  refine XS.icmpNo X263.here hx rfl (hb hby d5_62) rfl (feq hc271).1 ?_
                  refine XS.iloadN X263.here hx rfl (hb hby d5_65) rfl ?_
                  refine XS.bipush X263.here hx rfl (hb hby d5_66) ?_
                  exact kq)
                by_cases hc274 : u1 = (58 : Int32)
                · have G275 : Go p e below A0 (T263.setTop (mkF m 79 #[.val (.ref a), .val (.int 1), .val (.int u1)] [])) := fun tq kq => G273 tq (by
                    refine XS.icmpYes X263.here hx rfl (pc0 := 68) (pc' := 79) rfl (hb hby d5_68) rfl (teq hc274).1 (by decide) (by decide) ?_
                    exact kq)
                  exact ⟨T263, _, X263, e263, N263, (by trivial), G275⟩
                · have G276 : Go p e below A0 (T263.setTop (mkF m 74 #[.val (.ref a), .val (.int 1), .val (.int u1)] [(.int 45), (.int u1)])) := fun tq kq => G273 tq (by
                    refine XS.icmpNo X263.here hx rfl (hb hby d5_68) rfl (feq hc274).1 ?_
                    refine XS.iloadN X263.here hx rfl (hb hby d5_71) rfl ?_
                    refine XS.bipush X263.here hx rfl (hb hby d5_72) ?_
                    exact kq)
                  by_cases hc277 : u1 = (45 : Int32)
                  · have G278 : Go p e below A0 (T263.setTop (mkF m 79 #[.val (.ref a), .val (.int 1), .val (.int u1)] [])) := fun tq kq => G276 tq (by
                      refine XS.icmpYes X263.here hx rfl (pc0 := 74) (pc' := 79) rfl (hb hby d5_74) rfl (teq hc277).1 (by decide) (by decide) ?_
                      exact kq)
                    exact ⟨T263, _, X263, e263, N263, (by trivial), G278⟩
                  · have G279 : Go p e below A0 (T263.setTop (mkF m 77 #[.val (.ref a), .val (.int 1), .val (.int u1)] [])) := fun tq kq => G276 tq (by
                      refine XS.icmpNo X263.here hx rfl (hb hby d5_74) rfl (feq hc277).1 ?_
                      exact kq)
                    exact absurd ht259 (by simp only [own_tl, hc265, hc268, hc271, hc274, hc277, or_self, not_false_eq_true])
        have G280 : Go p e below A0 (T261.setTop (mkF m 34 #[.val (.ref a), .val (.int 2), .val (.int u1)] [(.ref a), (.int 2)])) := fun tq kq => G261 tq (by
          refine XS.iinc X261.here hx rfl (hb hby d5_79) rfl (l' := #[.val (.ref a), .val (.int ((1 : Int32) + (1 : Int32))), .val (.int u1)]) rfl ?_
          show Steps p.tables e below (T261.setTop (mkF m 82 #[.val (.ref a), .val (.int ((1 : Int32) + (1 : Int32))), .val (.int u1)] [])) _
          rw [show ((1 : Int32) + (1 : Int32)) = (2 : Int32) from (by decide : ((1 : Int32) + (1 : Int32)) = (2 : Int32))]
          show Steps p.tables e below (T261.setTop (mkF m 82 #[.val (.ref a), .val (.int 2), .val (.int u1)] [])) _
          refine XS.goto X261.here hx rfl (pc0 := 82) (pc' := 32) rfl (hb hby d5_82) (by decide) (by decide) ?_
          refine XS.iloadN X261.here hx rfl (hb hby d5_32) rfl ?_
          refine XS.aloadN X261.here hx rfl (hb hby d5_33) rfl rfl ?_
          exact kq)
        obtain ⟨cq281, kq281, q281a, q281b, q281c⟩ := isOf hZ e261 E
        obtain ⟨_, _, ⟨T281, L281, k281, n281⟩, -, X281, ⟨Lc281, hQ281, l281, y281, z281⟩, st281⟩ := X261.virtualBack hx (y := (⟨"java/lang/String", "length", "()I"⟩ : MethodName)) (z := (⟨"java/lang/String", "length", "()I"⟩ : MethodName)) hown (mvT hZ (wd hw 51 rfl)) (mvT hZ (wd hw 52 rfl)) (notFace_of_selects (args := #[]) (mvT hZ (wd hw 54 rfl))) (mvT hZ (wd hw 54 rfl)) (mvT hZ (wd hw 53 rfl)) (by decide) (backOf (W := 1) (rmLeL l Z a0 hw [] a b kb (own_cf u0 u1 u1) (2 : Int32) (4 : Int32) cs fo h0 n0 Z0 E Fv Fc Ab ⟨by decide, by decide, by decide⟩ hCS hcs hSF hfo hAD hHI hLO hold) hZ (wd hw 55 rfl) (wd hw 8 rfl) (by decide) (by decide)) q281a q281c (g := (mkF m 34 #[.val (.ref a), .val (.int 2), .val (.int u1)] [(.ref a), (.int 2)])) rfl (by rw [hml]; rfl) (Steps.refl _) (argsL := []) (rest := [(.int 2)]) (lenOf pd_8 rfl) rfl (by show 2 * 0 + _ ≤ _; exact Nat.le_of_eq rfl) (hb hby d5_34) (fun _ _ => ⟨rfl, e261, (by decide : 0 + 0 ≤ _), (by decide : 0 + 0 ≤ _)⟩)
        dsimp only [Pt.U, Pt.locs, Pt.cells, Pt.slots] at X281 l281 y281 z281 st281 hQ281
        obtain rfl : k281 = 0 := y281
        obtain rfl : n281 = 0 := z281
        obtain ⟨rfl, N281q, e281⟩ := hQ281
        have N281 : Fr n0 L281 := by rw [l281]; exact Fr.app N261 N281q
        have G282 : Go p e below A0 (T281.setTop (mkF m 37 #[.val (.ref a), .val (.int 2), .val (.int u1)] [(.int 2), (.int 2)])) := fun tq kq => G280 tq (st281.trans kq)
        have G283 : Go p e below A0 (T281.setTop (mkF m 86 #[.val (.ref a), .val (.int 2), .val (.int u1)] [(.int 1)])) := fun tq kq => G282 tq (by
          refine XS.icmpYes X281.here hx rfl (pc0 := 37) (pc' := 85) rfl (hb hby d5_37) rfl (by decide) (by decide) (by decide) ?_
          refine XS.iconst X281.here hx rfl (hb hby d5_85) ?_
          exact kq)
        obtain ⟨fs, hr, hrun, hended, hW, hsame⟩ := X281.leave (v := some (.int (nar .boolean (1 : Int32)))) (fun h => by rw [Bd.returns] at h; cases h)
        refine ⟨_, _, (by rw [← hA0]; exact G283 _ (retN X281 hx (t := .boolean) Bd.returns (by simp) (hb hby d5_86) hr)), hrun, hended, _, _, rfl, ?_, ⟨_, rfl⟩, hW, hsame.mono (by decide) (by decide)⟩
        exact ⟨(by rw [show own_b (own_ld u0 ∧ own_tl u1) = (1 : Int32) from by simp only [own_b, hc252, ht259, not_true_eq_false, not_false_eq_true, if_true, if_false, or_true, true_or, or_false, false_or, and_true, true_and, and_false, false_and, and_self, or_self]]; rfl), N281, e281⟩
      · skip
        have G284 : Go p e below A0 (T257.setTop (mkF m 47 #[.val (.ref a), .val (.int 1), .val (.int u1)] [(.int u1)])) := fun tq kq => G260 tq (by
          refine XS.iloadN X257.here hx rfl (hb hby d5_46) rfl ?_
          exact kq)
        obtain ⟨_, _, ⟨T285, L285, k285, n285⟩, -, X285, ⟨Lc285, hQ285, l285, y285, z285⟩, st285⟩ := Jvm.LawKit.callS X257 hx (y := (⟨"com/example/role_delegation/roledelegation/Names", "isLetterOrDigit", "(C)Z"⟩ : MethodName)) hown (mvT hZ (wd hw 83 rfl)) (mvT hZ (wd hw 84 rfl)) (mvT hZ (wd hw 30 rfl)) (mvT hZ (wd hw 85 rfl)) (by decide) (backOf (W := 0) (rmLD l Z a0 hw [] u1 h0 n0 Z0 ) hZ (wd hw 85 rfl) (wd hw 30 rfl) (by decide) (by decide)) (g := (mkF m 47 #[.val (.ref a), .val (.int 1), .val (.int u1)] [(.int u1)])) rfl (by rw [hml]; rfl) (argsL := [(.int u1)]) (rest := []) (lenOf pd_7 rfl) rfl (by show 2 * 0 + _ ≤ _; exact Nat.le_of_eq rfl) (hb hby d5_47) (fun _ _ => ⟨rfl, e257, (by decide : 0 + 0 ≤ _), (by decide : 0 + 0 ≤ _)⟩)
        dsimp only [Pt.U, Pt.locs, Pt.cells, Pt.slots] at X285 l285 y285 z285 st285 hQ285
        obtain rfl : k285 = 0 := y285
        obtain rfl : n285 = 0 := z285
        obtain ⟨rfl, N285q, e285⟩ := hQ285
        have N285 : Fr n0 L285 := by rw [l285]; exact Fr.app N257 N285q
        have G286 : Go p e below A0 (T285.setTop (mkF m 50 #[.val (.ref a), .val (.int 1), .val (.int u1)] [(.int (own_b (own_ld u1)))])) := fun tq kq => G284 tq (st285 _ kq)
        have G287 : Go p e below A0 (T285.setTop (mkF m 78 #[.val (.ref a), .val (.int 1), .val (.int u1)] [(.int 0)])) := fun tq kq => G286 tq (by
          refine XS.ifNo X285.here hx rfl (hb hby d5_50) rfl ((if0 _ _).trans (teq (own_b0 (fun q => ht259 (Or.inl q)))).2) ?_
          refine XS.iloadN X285.here hx rfl (hb hby d5_53) rfl ?_
          refine XS.bipush X285.here hx rfl (hb hby d5_54) ?_
          refine XS.icmpNo X285.here hx rfl (hb hby d5_56) rfl (feq (fun q => ht259 (Or.inr (Or.inl q)))).1 ?_
          refine XS.iloadN X285.here hx rfl (hb hby d5_59) rfl ?_
          refine XS.bipush X285.here hx rfl (hb hby d5_60) ?_
          refine XS.icmpNo X285.here hx rfl (hb hby d5_62) rfl (feq (fun q => ht259 (Or.inr (Or.inr (Or.inl q))))).1 ?_
          refine XS.iloadN X285.here hx rfl (hb hby d5_65) rfl ?_
          refine XS.bipush X285.here hx rfl (hb hby d5_66) ?_
          refine XS.icmpNo X285.here hx rfl (hb hby d5_68) rfl (feq (fun q => ht259 (Or.inr (Or.inr (Or.inr (Or.inl q)))))).1 ?_
          refine XS.iloadN X285.here hx rfl (hb hby d5_71) rfl ?_
          refine XS.bipush X285.here hx rfl (hb hby d5_72) ?_
          refine XS.icmpNo X285.here hx rfl (hb hby d5_74) rfl (feq (fun q => ht259 (Or.inr (Or.inr (Or.inr (Or.inr q)))))).1 ?_
          refine XS.iconst X285.here hx rfl (hb hby d5_77) ?_
          exact kq)
        obtain ⟨fs, hr, hrun, hended, hW, hsame⟩ := X285.leave (v := some (.int (nar .boolean (0 : Int32)))) (fun h => by rw [Bd.returns] at h; cases h)
        refine ⟨_, _, (by rw [← hA0]; exact G287 _ (retN X285 hx (t := .boolean) Bd.returns (by simp) (hb hby d5_78) hr)), hrun, hended, _, _, rfl, ?_, ⟨_, rfl⟩, hW, hsame.mono (by decide) (by decide)⟩
        exact ⟨(by rw [show own_b (own_ld u0 ∧ own_tl u1) = (0 : Int32) from by simp only [own_b, hc252, ht259, not_true_eq_false, not_false_eq_true, if_true, if_false, or_true, true_or, or_false, false_or, and_true, true_and, and_false, false_and, and_self, or_self]]; rfl), N285, e285⟩
    · have G288 : Go p e below A0 (T250.setTop (mkF m 29 #[.val (.ref a), .unset, .unset] [(.int 0)])) := fun tq kq => G251 tq (by
        refine XS.ifNo X250.here hx rfl (hb hby d5_25) rfl ((if0 _ _).trans (teq (own_b0 hc252)).2) ?_
        refine XS.iconst X250.here hx rfl (hb hby d5_28) ?_
        exact kq)
      obtain ⟨fs, hr, hrun, hended, hW, hsame⟩ := X250.leave (v := some (.int (nar .boolean (0 : Int32)))) (fun h => by rw [Bd.returns] at h; cases h)
      refine ⟨_, _, (by rw [← hA0]; exact G288 _ (retN X250 hx (t := .boolean) Bd.returns (by simp) (hb hby d5_29) hr)), hrun, hended, _, _, rfl, ?_, ⟨_, rfl⟩, hW, hsame.mono (by decide) (by decide)⟩
      exact ⟨(by rw [show own_b (own_ld u0 ∧ own_tl u1) = (0 : Int32) from by simp only [own_b, hc252, not_true_eq_false, not_false_eq_true, if_true, if_false, or_true, true_or, or_false, false_or, and_true, true_and, and_false, false_and, and_self, or_self]]; rfl), N250, e250⟩
  · skip
    have G289 : Go p e below A0 (s₁.setTop (mkF m 1 #[.val (.ref a), .unset, .unset] [(.ref a)])) := fun tq kq => G0 tq (by
      refine XS.aloadN X0.here hx rfl (hb hby d5_0) rfl rfl ?_
      exact kq)
    obtain ⟨cq290, kq290, q290a, q290b, q290c⟩ := isOf hZ e0 E
    obtain ⟨_, _, ⟨T290, L290, k290, n290⟩, -, X290, ⟨Lc290, hQ290, l290, y290, z290⟩, st290⟩ := X0.virtualBack hx (y := (⟨"java/lang/String", "isEmpty", "()Z"⟩ : MethodName)) (z := (⟨"java/lang/String", "isEmpty", "()Z"⟩ : MethodName)) hown (mvT hZ (wd hw 32 rfl)) (mvT hZ (wd hw 33 rfl)) (notFace_of_selects (args := #[]) (mvT hZ (wd hw 35 rfl))) (mvT hZ (wd hw 35 rfl)) (mvT hZ (wd hw 34 rfl)) (by decide) (backOf (W := 0) (rmIEU l Z a0 hw [] a b kb (own_cf u0 u1 u1) (2 : Int32) (4 : Int32) cs fo h0 n0 Z0 E Fv Fc Ab (by decide) hCS hcs hSF hfo hAD hHI hLO hold) hZ (wd hw 36 rfl) (wd hw 8 rfl) (by decide) (by decide)) q290a q290c (g := (mkF m 1 #[.val (.ref a), .unset, .unset] [(.ref a)])) rfl (by rw [hml]; rfl) (Steps.refl _) (argsL := []) (rest := []) (lenOf pd_6 rfl) rfl (by show 2 * 0 + _ ≤ _; exact Nat.le_of_eq rfl) (hb hby d5_1) (fun _ _ => ⟨rfl, e0, (by decide : 0 + 0 ≤ _), (by decide : 0 + 0 ≤ _)⟩)
    dsimp only [Pt.U, Pt.locs, Pt.cells, Pt.slots] at X290 l290 y290 z290 st290 hQ290
    obtain rfl : k290 = 0 := y290
    obtain rfl : n290 = 0 := z290
    obtain ⟨rfl, N290q, e290⟩ := hQ290
    have N290 : Fr n0 L290 := by rw [l290]; exact Fr.app N0 N290q
    have G291 : Go p e below A0 (T290.setTop (mkF m 4 #[.val (.ref a), .unset, .unset] [(.int 0)])) := fun tq kq => G289 tq (st290.trans kq)
    have G292 : Go p e below A0 (T290.setTop (mkF m 8 #[.val (.ref a), .unset, .unset] [(.ref a)])) := fun tq kq => G291 tq (by
      refine XS.ifNo X290.here hx rfl (hb hby d5_4) rfl (by decide) ?_
      refine XS.aloadN X290.here hx rfl (hb hby d5_7) rfl rfl ?_
      exact kq)
    obtain ⟨cq293, kq293, q293a, q293b, q293c⟩ := isOf hZ e290 E
    obtain ⟨_, _, ⟨T293, L293, k293, n293⟩, -, X293, ⟨Lc293, hQ293, l293, y293, z293⟩, st293⟩ := X290.virtualBack hx (y := (⟨"java/lang/String", "length", "()I"⟩ : MethodName)) (z := (⟨"java/lang/String", "length", "()I"⟩ : MethodName)) hown (mvT hZ (wd hw 51 rfl)) (mvT hZ (wd hw 52 rfl)) (notFace_of_selects (args := #[]) (mvT hZ (wd hw 54 rfl))) (mvT hZ (wd hw 54 rfl)) (mvT hZ (wd hw 53 rfl)) (by decide) (backOf (W := 0) (rmLeU l Z a0 hw [] a b kb (own_cf u0 u1 u1) (2 : Int32) (4 : Int32) cs fo h0 n0 Z0 E Fv Fc Ab ⟨by decide, by decide, by decide⟩ hCS hcs hSF hfo hAD hHI hLO hold) hZ (wd hw 55 rfl) (wd hw 8 rfl) (by decide) (by decide)) q293a q293c (g := (mkF m 8 #[.val (.ref a), .unset, .unset] [(.ref a)])) rfl (by rw [hml]; rfl) (Steps.refl _) (argsL := []) (rest := []) (lenOf pd_8 rfl) rfl (by show 2 * 0 + _ ≤ _; exact Nat.le_of_eq rfl) (hb hby d5_8) (fun _ _ => ⟨rfl, e290, (by decide : 0 + 0 ≤ _), (by decide : 0 + 0 ≤ _)⟩)
    dsimp only [Pt.U, Pt.locs, Pt.cells, Pt.slots] at X293 l293 y293 z293 st293 hQ293
    obtain rfl : k293 = 0 := y293
    obtain rfl : n293 = 0 := z293
    obtain ⟨rfl, N293q, e293⟩ := hQ293
    have N293 : Fr n0 L293 := by rw [l293]; exact Fr.app N290 N293q
    have G294 : Go p e below A0 (T293.setTop (mkF m 11 #[.val (.ref a), .unset, .unset] [(.int 2)])) := fun tq kq => G292 tq (st293.trans kq)
    have G295 : Go p e below A0 (T293.setTop (mkF m 19 #[.val (.ref a), .unset, .unset] [(.int 0), (.ref a)])) := fun tq kq => G294 tq (by
      refine XS.sipush X293.here hx rfl (hb hby d5_11) ?_
      refine XS.icmpNo X293.here hx rfl (hb hby d5_14) rfl (by decide) ?_
      refine XS.aloadN X293.here hx rfl (hb hby d5_17) rfl rfl ?_
      refine XS.iconst X293.here hx rfl (hb hby d5_18) ?_
      exact kq)
    obtain ⟨cq296, kq296, q296a, q296b, q296c⟩ := isOf hZ e293 E
    obtain ⟨_, _, ⟨T296, L296, k296, n296⟩, -, X296, ⟨Lc296, hQ296, l296, y296, z296⟩, st296⟩ := X293.virtualBack hx (y := (⟨"java/lang/String", "charAt", "(I)C"⟩ : MethodName)) (z := (⟨"java/lang/String", "charAt", "(I)C"⟩ : MethodName)) hown (mvT hZ (wd hw 61 rfl)) (mvT hZ (wd hw 62 rfl)) (notFace_of_selects (args := #[]) (mvT hZ (wd hw 64 rfl))) (mvT hZ (wd hw 64 rfl)) (mvT hZ (wd hw 63 rfl)) (by decide) (backOf (W := 0) (rmCAU l Z a0 hw [] a b kb (own_cf u0 u1 u1) (0 : Int32) (2 : Int32) (4 : Int32) cs fo h0 n0 Z0 E Fv Fc Ab ⟨by decide, by decide, by decide⟩ ⟨by decide, by decide⟩ ru0  hCS hcs hSF hfo hAD hHI hLO hold) hZ (wd hw 65 rfl) (wd hw 8 rfl) (by decide) (by decide)) q296a q296c (g := (mkF m 19 #[.val (.ref a), .unset, .unset] [(.int 0), (.ref a)])) rfl (by rw [hml]; rfl) (Steps.refl _) (argsL := [(.int 0)]) (rest := []) (lenOf pd_9 rfl) rfl (by show 2 * 0 + _ ≤ _; exact Nat.le_of_eq rfl) (hb hby d5_19) (fun _ _ => ⟨rfl, e293, (by decide : 0 + 0 ≤ _), (by decide : 0 + 0 ≤ _)⟩)
    dsimp only [Pt.U, Pt.locs, Pt.cells, Pt.slots] at X296 l296 y296 z296 st296 hQ296
    obtain rfl : k296 = 0 := y296
    obtain rfl : n296 = 0 := z296
    obtain ⟨rfl, N296q, e296⟩ := hQ296
    have N296 : Fr n0 L296 := by rw [l296]; exact Fr.app N293 N296q
    have G297 : Go p e below A0 (T296.setTop (mkF m 22 #[.val (.ref a), .unset, .unset] [(.int u0)])) := fun tq kq => G295 tq (st296.trans kq)
    obtain ⟨_, _, ⟨T298, L298, k298, n298⟩, -, X298, ⟨Lc298, hQ298, l298, y298, z298⟩, st298⟩ := Jvm.LawKit.callS X296 hx (y := (⟨"com/example/role_delegation/roledelegation/Names", "isLetterOrDigit", "(C)Z"⟩ : MethodName)) hown (mvT hZ (wd hw 83 rfl)) (mvT hZ (wd hw 84 rfl)) (mvT hZ (wd hw 30 rfl)) (mvT hZ (wd hw 85 rfl)) (by decide) (backOf (W := 0) (rmLD l Z a0 hw [] u0 h0 n0 Z0 ) hZ (wd hw 85 rfl) (wd hw 30 rfl) (by decide) (by decide)) (g := (mkF m 22 #[.val (.ref a), .unset, .unset] [(.int u0)])) rfl (by rw [hml]; rfl) (argsL := [(.int u0)]) (rest := []) (lenOf pd_7 rfl) rfl (by show 2 * 0 + _ ≤ _; exact Nat.le_of_eq rfl) (hb hby d5_22) (fun _ _ => ⟨rfl, e296, (by decide : 0 + 0 ≤ _), (by decide : 0 + 0 ≤ _)⟩)
    dsimp only [Pt.U, Pt.locs, Pt.cells, Pt.slots] at X298 l298 y298 z298 st298 hQ298
    obtain rfl : k298 = 0 := y298
    obtain rfl : n298 = 0 := z298
    obtain ⟨rfl, N298q, e298⟩ := hQ298
    have N298 : Fr n0 L298 := by rw [l298]; exact Fr.app N296 N298q
    have G299 : Go p e below A0 (T298.setTop (mkF m 25 #[.val (.ref a), .unset, .unset] [(.int (own_b (own_ld u0)))])) := fun tq kq => G297 tq (st298 _ kq)
    by_cases hc300 : (own_ld u0)
    · have G301 : Go p e below A0 (T298.setTop (mkF m 34 #[.val (.ref a), .val (.int 1), .unset] [(.ref a), (.int 1)])) := fun tq kq => G299 tq (by
        refine XS.ifYes X298.here hx rfl (pc0 := 25) (pc' := 30) rfl (hb hby d5_25) rfl ((if0 _ _).trans (feq (own_b1 hc300)).2) (by decide) (by decide) ?_
        refine XS.iconst X298.here hx rfl (hb hby d5_30) ?_
        refine XS.istoreN X298.here hx rfl (hb hby d5_31) rfl (l' := #[.val (.ref a), .val (.int 1), .unset]) rfl ?_
        refine XS.iloadN X298.here hx rfl (hb hby d5_32) rfl ?_
        refine XS.aloadN X298.here hx rfl (hb hby d5_33) rfl rfl ?_
        exact kq)
      obtain ⟨cq302, kq302, q302a, q302b, q302c⟩ := isOf hZ e298 E
      obtain ⟨_, _, ⟨T302, L302, k302, n302⟩, -, X302, ⟨Lc302, hQ302, l302, y302, z302⟩, st302⟩ := X298.virtualBack hx (y := (⟨"java/lang/String", "length", "()I"⟩ : MethodName)) (z := (⟨"java/lang/String", "length", "()I"⟩ : MethodName)) hown (mvT hZ (wd hw 51 rfl)) (mvT hZ (wd hw 52 rfl)) (notFace_of_selects (args := #[]) (mvT hZ (wd hw 54 rfl))) (mvT hZ (wd hw 54 rfl)) (mvT hZ (wd hw 53 rfl)) (by decide) (backOf (W := 1) (rmLeU l Z a0 hw [] a b kb (own_cf u0 u1 u1) (2 : Int32) (4 : Int32) cs fo h0 n0 Z0 E Fv Fc Ab ⟨by decide, by decide, by decide⟩ hCS hcs hSF hfo hAD hHI hLO hold) hZ (wd hw 55 rfl) (wd hw 8 rfl) (by decide) (by decide)) q302a q302c (g := (mkF m 34 #[.val (.ref a), .val (.int 1), .unset] [(.ref a), (.int 1)])) rfl (by rw [hml]; rfl) (Steps.refl _) (argsL := []) (rest := [(.int 1)]) (lenOf pd_8 rfl) rfl (by show 2 * 0 + _ ≤ _; exact Nat.le_of_eq rfl) (hb hby d5_34) (fun _ _ => ⟨rfl, e298, (by decide : 0 + 0 ≤ _), (by decide : 0 + 0 ≤ _)⟩)
      dsimp only [Pt.U, Pt.locs, Pt.cells, Pt.slots] at X302 l302 y302 z302 st302 hQ302
      obtain rfl : k302 = 0 := y302
      obtain rfl : n302 = 0 := z302
      obtain ⟨rfl, N302q, e302⟩ := hQ302
      have N302 : Fr n0 L302 := by rw [l302]; exact Fr.app N298 N302q
      have G303 : Go p e below A0 (T302.setTop (mkF m 37 #[.val (.ref a), .val (.int 1), .unset] [(.int 2), (.int 1)])) := fun tq kq => G301 tq (st302.trans kq)
      have G304 : Go p e below A0 (T302.setTop (mkF m 42 #[.val (.ref a), .val (.int 1), .unset] [(.int 1), (.ref a)])) := fun tq kq => G303 tq (by
        refine XS.icmpNo X302.here hx rfl (hb hby d5_37) rfl (by decide) ?_
        refine XS.aloadN X302.here hx rfl (hb hby d5_40) rfl rfl ?_
        refine XS.iloadN X302.here hx rfl (hb hby d5_41) rfl ?_
        exact kq)
      obtain ⟨cq305, kq305, q305a, q305b, q305c⟩ := isOf hZ e302 E
      obtain ⟨_, _, ⟨T305, L305, k305, n305⟩, -, X305, ⟨Lc305, hQ305, l305, y305, z305⟩, st305⟩ := X302.virtualBack hx (y := (⟨"java/lang/String", "charAt", "(I)C"⟩ : MethodName)) (z := (⟨"java/lang/String", "charAt", "(I)C"⟩ : MethodName)) hown (mvT hZ (wd hw 61 rfl)) (mvT hZ (wd hw 62 rfl)) (notFace_of_selects (args := #[]) (mvT hZ (wd hw 64 rfl))) (mvT hZ (wd hw 64 rfl)) (mvT hZ (wd hw 63 rfl)) (by decide) (backOf (W := 0) (rmCAU l Z a0 hw [] a b kb (own_cf u0 u1 u1) (1 : Int32) (2 : Int32) (4 : Int32) cs fo h0 n0 Z0 E Fv Fc Ab ⟨by decide, by decide, by decide⟩ ⟨by decide, by decide⟩ ru1  hCS hcs hSF hfo hAD hHI hLO hold) hZ (wd hw 65 rfl) (wd hw 8 rfl) (by decide) (by decide)) q305a q305c (g := (mkF m 42 #[.val (.ref a), .val (.int 1), .unset] [(.int 1), (.ref a)])) rfl (by rw [hml]; rfl) (Steps.refl _) (argsL := [(.int 1)]) (rest := []) (lenOf pd_9 rfl) rfl (by show 2 * 0 + _ ≤ _; exact Nat.le_of_eq rfl) (hb hby d5_42) (fun _ _ => ⟨rfl, e302, (by decide : 0 + 0 ≤ _), (by decide : 0 + 0 ≤ _)⟩)
      dsimp only [Pt.U, Pt.locs, Pt.cells, Pt.slots] at X305 l305 y305 z305 st305 hQ305
      obtain rfl : k305 = 0 := y305
      obtain rfl : n305 = 0 := z305
      obtain ⟨rfl, N305q, e305⟩ := hQ305
      have N305 : Fr n0 L305 := by rw [l305]; exact Fr.app N302 N305q
      have G306 : Go p e below A0 (T305.setTop (mkF m 45 #[.val (.ref a), .val (.int 1), .unset] [(.int u1)])) := fun tq kq => G304 tq (st305.trans kq)
      have G308 : Go p e below A0 (T305.setTop (mkF m 46 #[.val (.ref a), .val (.int 1), .val (.int u1)] [])) := fun tq kq => G306 tq (by
        refine XS.istoreN X305.here hx rfl (hb hby d5_45) rfl (l' := #[.val (.ref a), .val (.int 1), .val (.int u1)]) rfl ?_
        exact kq)
      by_cases ht307 : own_tl u1
      · obtain ⟨T309, Lc309, X309, e309, N309, hG309, G309⟩ : ∃ (T309 : State) (Lc309 : List Loc) , Stand p l e (Rm 5 0 0 66) s m #[(.ref a)] below meth c T309 Lc309 0 0 ∧ T309.heap = h0 ∧ Fr n0 Lc309 ∧ (True) ∧ Go p e below A0 (T309.setTop (mkF m 79 #[.val (.ref a), .val (.int 1), .val (.int u1)] [])) := by
          have G310 : Go p e below A0 (T305.setTop (mkF m 47 #[.val (.ref a), .val (.int 1), .val (.int u1)] [(.int u1)])) := fun tq kq => G308 tq (by
            refine XS.iloadN X305.here hx rfl (hb hby d5_46) rfl ?_
            exact kq)
          obtain ⟨_, _, ⟨T311, L311, k311, n311⟩, -, X311, ⟨Lc311, hQ311, l311, y311, z311⟩, st311⟩ := Jvm.LawKit.callS X305 hx (y := (⟨"com/example/role_delegation/roledelegation/Names", "isLetterOrDigit", "(C)Z"⟩ : MethodName)) hown (mvT hZ (wd hw 83 rfl)) (mvT hZ (wd hw 84 rfl)) (mvT hZ (wd hw 30 rfl)) (mvT hZ (wd hw 85 rfl)) (by decide) (backOf (W := 0) (rmLD l Z a0 hw [] u1 h0 n0 Z0 ) hZ (wd hw 85 rfl) (wd hw 30 rfl) (by decide) (by decide)) (g := (mkF m 47 #[.val (.ref a), .val (.int 1), .val (.int u1)] [(.int u1)])) rfl (by rw [hml]; rfl) (argsL := [(.int u1)]) (rest := []) (lenOf pd_7 rfl) rfl (by show 2 * 0 + _ ≤ _; exact Nat.le_of_eq rfl) (hb hby d5_47) (fun _ _ => ⟨rfl, e305, (by decide : 0 + 0 ≤ _), (by decide : 0 + 0 ≤ _)⟩)
          dsimp only [Pt.U, Pt.locs, Pt.cells, Pt.slots] at X311 l311 y311 z311 st311 hQ311
          obtain rfl : k311 = 0 := y311
          obtain rfl : n311 = 0 := z311
          obtain ⟨rfl, N311q, e311⟩ := hQ311
          have N311 : Fr n0 L311 := by rw [l311]; exact Fr.app N305 N311q
          have G312 : Go p e below A0 (T311.setTop (mkF m 50 #[.val (.ref a), .val (.int 1), .val (.int u1)] [(.int (own_b (own_ld u1)))])) := fun tq kq => G310 tq (st311 _ kq)
          by_cases hc313 : (own_ld u1)
          · have G314 : Go p e below A0 (T311.setTop (mkF m 79 #[.val (.ref a), .val (.int 1), .val (.int u1)] [])) := fun tq kq => G312 tq (by
              refine XS.ifYes X311.here hx rfl (pc0 := 50) (pc' := 79) rfl (hb hby d5_50) rfl ((if0 _ _).trans (feq (own_b1 hc313)).2) (by decide) (by decide) ?_
              exact kq)
            exact ⟨T311, _, X311, e311, N311, (by trivial), G314⟩
          · have G315 : Go p e below A0 (T311.setTop (mkF m 56 #[.val (.ref a), .val (.int 1), .val (.int u1)] [(.int 95), (.int u1)])) := fun tq kq => G312 tq (by
              refine XS.ifNo X311.here hx rfl (hb hby d5_50) rfl ((if0 _ _).trans (teq (own_b0 hc313)).2) ?_
              refine XS.iloadN X311.here hx rfl (hb hby d5_53) rfl ?_
              refine XS.bipush X311.here hx rfl (hb hby d5_54) ?_
              exact kq)
            by_cases hc316 : u1 = (95 : Int32)
            · have G317 : Go p e below A0 (T311.setTop (mkF m 79 #[.val (.ref a), .val (.int 1), .val (.int u1)] [])) := fun tq kq => G315 tq (by
                refine XS.icmpYes X311.here hx rfl (pc0 := 56) (pc' := 79) rfl (hb hby d5_56) rfl (teq hc316).1 (by decide) (by decide) ?_
                exact kq)
              exact ⟨T311, _, X311, e311, N311, (by trivial), G317⟩
            · have G318 : Go p e below A0 (T311.setTop (mkF m 62 #[.val (.ref a), .val (.int 1), .val (.int u1)] [(.int 46), (.int u1)])) := fun tq kq => G315 tq (by
                refine XS.icmpNo X311.here hx rfl (hb hby d5_56) rfl (feq hc316).1 ?_
                refine XS.iloadN X311.here hx rfl (hb hby d5_59) rfl ?_
                refine XS.bipush X311.here hx rfl (hb hby d5_60) ?_
                exact kq)
              by_cases hc319 : u1 = (46 : Int32)
              · have G320 : Go p e below A0 (T311.setTop (mkF m 79 #[.val (.ref a), .val (.int 1), .val (.int u1)] [])) := fun tq kq => G318 tq (by
                  refine XS.icmpYes X311.here hx rfl (pc0 := 62) (pc' := 79) rfl (hb hby d5_62) rfl (teq hc319).1 (by decide) (by decide) ?_
                  exact kq)
                exact ⟨T311, _, X311, e311, N311, (by trivial), G320⟩
              · have G321 : Go p e below A0 (T311.setTop (mkF m 68 #[.val (.ref a), .val (.int 1), .val (.int u1)] [(.int 58), (.int u1)])) := fun tq kq => G318 tq (by
                  refine XS.icmpNo X311.here hx rfl (hb hby d5_62) rfl (feq hc319).1 ?_
                  refine XS.iloadN X311.here hx rfl (hb hby d5_65) rfl ?_
                  refine XS.bipush X311.here hx rfl (hb hby d5_66) ?_
                  exact kq)
                by_cases hc322 : u1 = (58 : Int32)
                · have G323 : Go p e below A0 (T311.setTop (mkF m 79 #[.val (.ref a), .val (.int 1), .val (.int u1)] [])) := fun tq kq => G321 tq (by
                    refine XS.icmpYes X311.here hx rfl (pc0 := 68) (pc' := 79) rfl (hb hby d5_68) rfl (teq hc322).1 (by decide) (by decide) ?_
                    exact kq)
                  exact ⟨T311, _, X311, e311, N311, (by trivial), G323⟩
                · have G324 : Go p e below A0 (T311.setTop (mkF m 74 #[.val (.ref a), .val (.int 1), .val (.int u1)] [(.int 45), (.int u1)])) := fun tq kq => G321 tq (by
                    refine XS.icmpNo X311.here hx rfl (hb hby d5_68) rfl (feq hc322).1 ?_
                    refine XS.iloadN X311.here hx rfl (hb hby d5_71) rfl ?_
                    refine XS.bipush X311.here hx rfl (hb hby d5_72) ?_
                    exact kq)
                  by_cases hc325 : u1 = (45 : Int32)
                  · have G326 : Go p e below A0 (T311.setTop (mkF m 79 #[.val (.ref a), .val (.int 1), .val (.int u1)] [])) := fun tq kq => G324 tq (by
                      refine XS.icmpYes X311.here hx rfl (pc0 := 74) (pc' := 79) rfl (hb hby d5_74) rfl (teq hc325).1 (by decide) (by decide) ?_
                      exact kq)
                    exact ⟨T311, _, X311, e311, N311, (by trivial), G326⟩
                  · have G327 : Go p e below A0 (T311.setTop (mkF m 77 #[.val (.ref a), .val (.int 1), .val (.int u1)] [])) := fun tq kq => G324 tq (by
                      refine XS.icmpNo X311.here hx rfl (hb hby d5_74) rfl (feq hc325).1 ?_
                      exact kq)
                    exact absurd ht307 (by simp only [own_tl, hc313, hc316, hc319, hc322, hc325, or_self, not_false_eq_true])
        have G328 : Go p e below A0 (T309.setTop (mkF m 34 #[.val (.ref a), .val (.int 2), .val (.int u1)] [(.ref a), (.int 2)])) := fun tq kq => G309 tq (by
          refine XS.iinc X309.here hx rfl (hb hby d5_79) rfl (l' := #[.val (.ref a), .val (.int ((1 : Int32) + (1 : Int32))), .val (.int u1)]) rfl ?_
          show Steps p.tables e below (T309.setTop (mkF m 82 #[.val (.ref a), .val (.int ((1 : Int32) + (1 : Int32))), .val (.int u1)] [])) _
          rw [show ((1 : Int32) + (1 : Int32)) = (2 : Int32) from (by decide : ((1 : Int32) + (1 : Int32)) = (2 : Int32))]
          show Steps p.tables e below (T309.setTop (mkF m 82 #[.val (.ref a), .val (.int 2), .val (.int u1)] [])) _
          refine XS.goto X309.here hx rfl (pc0 := 82) (pc' := 32) rfl (hb hby d5_82) (by decide) (by decide) ?_
          refine XS.iloadN X309.here hx rfl (hb hby d5_32) rfl ?_
          refine XS.aloadN X309.here hx rfl (hb hby d5_33) rfl rfl ?_
          exact kq)
        obtain ⟨cq329, kq329, q329a, q329b, q329c⟩ := isOf hZ e309 E
        obtain ⟨_, _, ⟨T329, L329, k329, n329⟩, -, X329, ⟨Lc329, hQ329, l329, y329, z329⟩, st329⟩ := X309.virtualBack hx (y := (⟨"java/lang/String", "length", "()I"⟩ : MethodName)) (z := (⟨"java/lang/String", "length", "()I"⟩ : MethodName)) hown (mvT hZ (wd hw 51 rfl)) (mvT hZ (wd hw 52 rfl)) (notFace_of_selects (args := #[]) (mvT hZ (wd hw 54 rfl))) (mvT hZ (wd hw 54 rfl)) (mvT hZ (wd hw 53 rfl)) (by decide) (backOf (W := 1) (rmLeU l Z a0 hw [] a b kb (own_cf u0 u1 u1) (2 : Int32) (4 : Int32) cs fo h0 n0 Z0 E Fv Fc Ab ⟨by decide, by decide, by decide⟩ hCS hcs hSF hfo hAD hHI hLO hold) hZ (wd hw 55 rfl) (wd hw 8 rfl) (by decide) (by decide)) q329a q329c (g := (mkF m 34 #[.val (.ref a), .val (.int 2), .val (.int u1)] [(.ref a), (.int 2)])) rfl (by rw [hml]; rfl) (Steps.refl _) (argsL := []) (rest := [(.int 2)]) (lenOf pd_8 rfl) rfl (by show 2 * 0 + _ ≤ _; exact Nat.le_of_eq rfl) (hb hby d5_34) (fun _ _ => ⟨rfl, e309, (by decide : 0 + 0 ≤ _), (by decide : 0 + 0 ≤ _)⟩)
        dsimp only [Pt.U, Pt.locs, Pt.cells, Pt.slots] at X329 l329 y329 z329 st329 hQ329
        obtain rfl : k329 = 0 := y329
        obtain rfl : n329 = 0 := z329
        obtain ⟨rfl, N329q, e329⟩ := hQ329
        have N329 : Fr n0 L329 := by rw [l329]; exact Fr.app N309 N329q
        have G330 : Go p e below A0 (T329.setTop (mkF m 37 #[.val (.ref a), .val (.int 2), .val (.int u1)] [(.int 2), (.int 2)])) := fun tq kq => G328 tq (st329.trans kq)
        have G331 : Go p e below A0 (T329.setTop (mkF m 86 #[.val (.ref a), .val (.int 2), .val (.int u1)] [(.int 1)])) := fun tq kq => G330 tq (by
          refine XS.icmpYes X329.here hx rfl (pc0 := 37) (pc' := 85) rfl (hb hby d5_37) rfl (by decide) (by decide) (by decide) ?_
          refine XS.iconst X329.here hx rfl (hb hby d5_85) ?_
          exact kq)
        obtain ⟨fs, hr, hrun, hended, hW, hsame⟩ := X329.leave (v := some (.int (nar .boolean (1 : Int32)))) (fun h => by rw [Bd.returns] at h; cases h)
        refine ⟨_, _, (by rw [← hA0]; exact G331 _ (retN X329 hx (t := .boolean) Bd.returns (by simp) (hb hby d5_86) hr)), hrun, hended, _, _, rfl, ?_, ⟨_, rfl⟩, hW, hsame.mono (by decide) (by decide)⟩
        exact ⟨(by rw [show own_b (own_ld u0 ∧ own_tl u1) = (1 : Int32) from by simp only [own_b, hc300, ht307, not_true_eq_false, not_false_eq_true, if_true, if_false, or_true, true_or, or_false, false_or, and_true, true_and, and_false, false_and, and_self, or_self]]; rfl), N329, e329⟩
      · skip
        have G332 : Go p e below A0 (T305.setTop (mkF m 47 #[.val (.ref a), .val (.int 1), .val (.int u1)] [(.int u1)])) := fun tq kq => G308 tq (by
          refine XS.iloadN X305.here hx rfl (hb hby d5_46) rfl ?_
          exact kq)
        obtain ⟨_, _, ⟨T333, L333, k333, n333⟩, -, X333, ⟨Lc333, hQ333, l333, y333, z333⟩, st333⟩ := Jvm.LawKit.callS X305 hx (y := (⟨"com/example/role_delegation/roledelegation/Names", "isLetterOrDigit", "(C)Z"⟩ : MethodName)) hown (mvT hZ (wd hw 83 rfl)) (mvT hZ (wd hw 84 rfl)) (mvT hZ (wd hw 30 rfl)) (mvT hZ (wd hw 85 rfl)) (by decide) (backOf (W := 0) (rmLD l Z a0 hw [] u1 h0 n0 Z0 ) hZ (wd hw 85 rfl) (wd hw 30 rfl) (by decide) (by decide)) (g := (mkF m 47 #[.val (.ref a), .val (.int 1), .val (.int u1)] [(.int u1)])) rfl (by rw [hml]; rfl) (argsL := [(.int u1)]) (rest := []) (lenOf pd_7 rfl) rfl (by show 2 * 0 + _ ≤ _; exact Nat.le_of_eq rfl) (hb hby d5_47) (fun _ _ => ⟨rfl, e305, (by decide : 0 + 0 ≤ _), (by decide : 0 + 0 ≤ _)⟩)
        dsimp only [Pt.U, Pt.locs, Pt.cells, Pt.slots] at X333 l333 y333 z333 st333 hQ333
        obtain rfl : k333 = 0 := y333
        obtain rfl : n333 = 0 := z333
        obtain ⟨rfl, N333q, e333⟩ := hQ333
        have N333 : Fr n0 L333 := by rw [l333]; exact Fr.app N305 N333q
        have G334 : Go p e below A0 (T333.setTop (mkF m 50 #[.val (.ref a), .val (.int 1), .val (.int u1)] [(.int (own_b (own_ld u1)))])) := fun tq kq => G332 tq (st333 _ kq)
        have G335 : Go p e below A0 (T333.setTop (mkF m 78 #[.val (.ref a), .val (.int 1), .val (.int u1)] [(.int 0)])) := fun tq kq => G334 tq (by
          refine XS.ifNo X333.here hx rfl (hb hby d5_50) rfl ((if0 _ _).trans (teq (own_b0 (fun q => ht307 (Or.inl q)))).2) ?_
          refine XS.iloadN X333.here hx rfl (hb hby d5_53) rfl ?_
          refine XS.bipush X333.here hx rfl (hb hby d5_54) ?_
          refine XS.icmpNo X333.here hx rfl (hb hby d5_56) rfl (feq (fun q => ht307 (Or.inr (Or.inl q)))).1 ?_
          refine XS.iloadN X333.here hx rfl (hb hby d5_59) rfl ?_
          refine XS.bipush X333.here hx rfl (hb hby d5_60) ?_
          refine XS.icmpNo X333.here hx rfl (hb hby d5_62) rfl (feq (fun q => ht307 (Or.inr (Or.inr (Or.inl q))))).1 ?_
          refine XS.iloadN X333.here hx rfl (hb hby d5_65) rfl ?_
          refine XS.bipush X333.here hx rfl (hb hby d5_66) ?_
          refine XS.icmpNo X333.here hx rfl (hb hby d5_68) rfl (feq (fun q => ht307 (Or.inr (Or.inr (Or.inr (Or.inl q)))))).1 ?_
          refine XS.iloadN X333.here hx rfl (hb hby d5_71) rfl ?_
          refine XS.bipush X333.here hx rfl (hb hby d5_72) ?_
          refine XS.icmpNo X333.here hx rfl (hb hby d5_74) rfl (feq (fun q => ht307 (Or.inr (Or.inr (Or.inr (Or.inr q)))))).1 ?_
          refine XS.iconst X333.here hx rfl (hb hby d5_77) ?_
          exact kq)
        obtain ⟨fs, hr, hrun, hended, hW, hsame⟩ := X333.leave (v := some (.int (nar .boolean (0 : Int32)))) (fun h => by rw [Bd.returns] at h; cases h)
        refine ⟨_, _, (by rw [← hA0]; exact G335 _ (retN X333 hx (t := .boolean) Bd.returns (by simp) (hb hby d5_78) hr)), hrun, hended, _, _, rfl, ?_, ⟨_, rfl⟩, hW, hsame.mono (by decide) (by decide)⟩
        exact ⟨(by rw [show own_b (own_ld u0 ∧ own_tl u1) = (0 : Int32) from by simp only [own_b, hc300, ht307, not_true_eq_false, not_false_eq_true, if_true, if_false, or_true, true_or, or_false, false_or, and_true, true_and, and_false, false_and, and_self, or_self]]; rfl), N333, e333⟩
    · have G336 : Go p e below A0 (T298.setTop (mkF m 29 #[.val (.ref a), .unset, .unset] [(.int 0)])) := fun tq kq => G299 tq (by
        refine XS.ifNo X298.here hx rfl (hb hby d5_25) rfl ((if0 _ _).trans (teq (own_b0 hc300)).2) ?_
        refine XS.iconst X298.here hx rfl (hb hby d5_28) ?_
        exact kq)
      obtain ⟨fs, hr, hrun, hended, hW, hsame⟩ := X298.leave (v := some (.int (nar .boolean (0 : Int32)))) (fun h => by rw [Bd.returns] at h; cases h)
      refine ⟨_, _, (by rw [← hA0]; exact G336 _ (retN X298 hx (t := .boolean) Bd.returns (by simp) (hb hby d5_29) hr)), hrun, hended, _, _, rfl, ?_, ⟨_, rfl⟩, hW, hsame.mono (by decide) (by decide)⟩
      exact ⟨(by rw [show own_b (own_ld u0 ∧ own_tl u1) = (0 : Int32) from by simp only [own_b, hc300, not_true_eq_false, not_false_eq_true, if_true, if_false, or_true, true_or, or_false, false_or, and_true, true_and, and_false, false_and, and_self, or_self]]; rfl), N298, e298⟩
def Sn3 (Z : State) (h : Heap) (a : Addr) (u0 u1 u2 : Int32) : Prop := ∃ b kb, Fld Z h a "java/lang/String" "value" "[B" (.ref b) ∧ ((¬ (255 : Int32) < u0 ∧ ¬ (255 : Int32) < u1 ∧ ¬ (255 : Int32) < u2 ∧ Fld Z h a "java/lang/String" "coder" "B" (.int 0) ∧ Af Z h b kb .byte (3 : Int32) (fun j => .int (own_by ((own_cf u0 u1 u2) j)))) ∨ (Fld Z h a "java/lang/String" "coder" "B" (.int 1) ∧ Af Z h b kb .byte (6 : Int32) (fun j => .int (own_ub (own_cf u0 u1 u2) j))))
set_option maxRecDepth 65536 in
set_option maxHeartbeats 40000000 in
theorem rmV3 (l : Launch) (Z : State) (a0 : Array Value) (hw : ∀ d ∈ tables_1, d.before a0 Z = true) (ws : List Jvm.Cond) (a : Addr) (u0 u1 u2 : Int32) (cs : Int32) (fo : Value) (h0 : Heap) (n0 : Nat) (Z0 : n0 ≤ h0.size) (E : Exa Z h0 a "java/lang/String") (hs_ : Sn3 Z h0 a u0 u1 u2) (ru0 : own_R u0) (ru1 : own_R u1) (ru2 : own_R u2) (hCS : Sta Z Z.heap "java/lang/String" "COMPACT_STRINGS" "Z" (.int cs)) (hcs : ¬ cs = (0 : Int32)) (hSF : Sta Z Z.heap "jdk/internal/util/Preconditions" "SIOOBE_FORMATTER" "Ljava/util/function/BiFunction;" fo) (hfo : fo.isRef = true) (hAD : Sta Z Z.heap "java/lang/StringUTF16" "$assertionsDisabled" "Z" (.int 1)) (hHI : Sta Z Z.heap "java/lang/StringUTF16" "HI_BYTE_SHIFT" "I" (.int 0)) (hLO : Sta Z Z.heap "java/lang/StringUTF16" "LO_BYTE_SHIFT" "I" (.int 8)) (hold : Old Z n0 h0) :
    MetFree l (⟨"com/example/role_delegation/roledelegation/Names", "isValid", "(Ljava/lang/String;)Z"⟩ : MethodName) (head1 (Jvm.Cond.code (⟨"com/example/role_delegation/roledelegation/Names", "isValid", "(Ljava/lang/String;)Z"⟩ : MethodName) prog_38_method_2_code 3 (some .boolean) :: ws) (Rm 5 0 0 66)) (fun aa UU => aa = #[(.ref a)] ∧ Z.Warmed39 UU.vm ∧ UU.heap = h0) (fun _ _ _ _ _ => True) (fun _ UU oo U' => ∃ v L, oo = .returned v ∧ Qr (.int (own_b (own_ld u0 ∧ own_tl u1 ∧ own_tl u2))) h0 n0 v U'.heap L ∧ FrameEnd UU oo U' L (Rm 5 0 0 66).cells (Rm 5 0 0 66).slots) := by
  refine MetFree.of_bodySF (plainFor_of_name pn_4) hisR ?_
  intro p e s m args below meth c s₁ Bd hml0 hP hK
  obtain ⟨rfl, hZ, hh⟩ := hP
  have hx := Bd.exec
  have hby := Bd.bytes
  have hml : c.maxLocals = 3 := hml0
  have hown : s.vm.findClass "com/example/role_delegation/roledelegation/Names" = some m.cls := findClass_of_methodNamed Bd.named
  have hnm := (name_of_methodNamed Bd.named Bd.method).1
  have X0 : Stand p l e (Rm 5 0 0 66) s m #[(.ref a)] below meth c s₁ [] 0 0 := Stand.of_body Bd
  have e0 : s₁.heap = h0 := by rw [← hh, Bd.state]; rfl
  have N0 := Fr.nil n0
  obtain ⟨A0, hA0⟩ : ∃ A, A = s₁.setTop (entryFrame m #[(.ref a)] 3) := ⟨_, rfl⟩
  have G0 : Go p e below A0 (s₁.setTop (mkF m 0 #[.val (.ref a), .unset, .unset] [])) := fun tq kq => by rw [hA0]; exact castTop (ef_rmV3 m a) kq
  obtain ⟨b, kb, Fv, hd⟩ := hs_
  rcases hd with ⟨lu0, lu1, lu2, Fc, Ab⟩ | ⟨Fc, Ab⟩
  · skip
    have G337 : Go p e below A0 (s₁.setTop (mkF m 1 #[.val (.ref a), .unset, .unset] [(.ref a)])) := fun tq kq => G0 tq (by
      refine XS.aloadN X0.here hx rfl (hb hby d5_0) rfl rfl ?_
      exact kq)
    obtain ⟨cq338, kq338, q338a, q338b, q338c⟩ := isOf hZ e0 E
    obtain ⟨_, _, ⟨T338, L338, k338, n338⟩, -, X338, ⟨Lc338, hQ338, l338, y338, z338⟩, st338⟩ := X0.virtualBack hx (y := (⟨"java/lang/String", "isEmpty", "()Z"⟩ : MethodName)) (z := (⟨"java/lang/String", "isEmpty", "()Z"⟩ : MethodName)) hown (mvT hZ (wd hw 32 rfl)) (mvT hZ (wd hw 33 rfl)) (notFace_of_selects (args := #[]) (mvT hZ (wd hw 35 rfl))) (mvT hZ (wd hw 35 rfl)) (mvT hZ (wd hw 34 rfl)) (by decide) (backOf (W := 0) (rmIEL l Z a0 hw [] a b kb (own_cf u0 u1 u2) (3 : Int32) (6 : Int32) cs fo h0 n0 Z0 E Fv Fc Ab (by decide) hCS hcs hSF hfo hAD hHI hLO hold) hZ (wd hw 36 rfl) (wd hw 8 rfl) (by decide) (by decide)) q338a q338c (g := (mkF m 1 #[.val (.ref a), .unset, .unset] [(.ref a)])) rfl (by rw [hml]; rfl) (Steps.refl _) (argsL := []) (rest := []) (lenOf pd_6 rfl) rfl (by show 2 * 0 + _ ≤ _; exact Nat.le_of_eq rfl) (hb hby d5_1) (fun _ _ => ⟨rfl, e0, (by decide : 0 + 0 ≤ _), (by decide : 0 + 0 ≤ _)⟩)
    dsimp only [Pt.U, Pt.locs, Pt.cells, Pt.slots] at X338 l338 y338 z338 st338 hQ338
    obtain rfl : k338 = 0 := y338
    obtain rfl : n338 = 0 := z338
    obtain ⟨rfl, N338q, e338⟩ := hQ338
    have N338 : Fr n0 L338 := by rw [l338]; exact Fr.app N0 N338q
    have G339 : Go p e below A0 (T338.setTop (mkF m 4 #[.val (.ref a), .unset, .unset] [(.int 0)])) := fun tq kq => G337 tq (st338.trans kq)
    have G340 : Go p e below A0 (T338.setTop (mkF m 8 #[.val (.ref a), .unset, .unset] [(.ref a)])) := fun tq kq => G339 tq (by
      refine XS.ifNo X338.here hx rfl (hb hby d5_4) rfl (by decide) ?_
      refine XS.aloadN X338.here hx rfl (hb hby d5_7) rfl rfl ?_
      exact kq)
    obtain ⟨cq341, kq341, q341a, q341b, q341c⟩ := isOf hZ e338 E
    obtain ⟨_, _, ⟨T341, L341, k341, n341⟩, -, X341, ⟨Lc341, hQ341, l341, y341, z341⟩, st341⟩ := X338.virtualBack hx (y := (⟨"java/lang/String", "length", "()I"⟩ : MethodName)) (z := (⟨"java/lang/String", "length", "()I"⟩ : MethodName)) hown (mvT hZ (wd hw 51 rfl)) (mvT hZ (wd hw 52 rfl)) (notFace_of_selects (args := #[]) (mvT hZ (wd hw 54 rfl))) (mvT hZ (wd hw 54 rfl)) (mvT hZ (wd hw 53 rfl)) (by decide) (backOf (W := 0) (rmLeL l Z a0 hw [] a b kb (own_cf u0 u1 u2) (3 : Int32) (6 : Int32) cs fo h0 n0 Z0 E Fv Fc Ab ⟨by decide, by decide, by decide⟩ hCS hcs hSF hfo hAD hHI hLO hold) hZ (wd hw 55 rfl) (wd hw 8 rfl) (by decide) (by decide)) q341a q341c (g := (mkF m 8 #[.val (.ref a), .unset, .unset] [(.ref a)])) rfl (by rw [hml]; rfl) (Steps.refl _) (argsL := []) (rest := []) (lenOf pd_8 rfl) rfl (by show 2 * 0 + _ ≤ _; exact Nat.le_of_eq rfl) (hb hby d5_8) (fun _ _ => ⟨rfl, e338, (by decide : 0 + 0 ≤ _), (by decide : 0 + 0 ≤ _)⟩)
    dsimp only [Pt.U, Pt.locs, Pt.cells, Pt.slots] at X341 l341 y341 z341 st341 hQ341
    obtain rfl : k341 = 0 := y341
    obtain rfl : n341 = 0 := z341
    obtain ⟨rfl, N341q, e341⟩ := hQ341
    have N341 : Fr n0 L341 := by rw [l341]; exact Fr.app N338 N341q
    have G342 : Go p e below A0 (T341.setTop (mkF m 11 #[.val (.ref a), .unset, .unset] [(.int 3)])) := fun tq kq => G340 tq (st341.trans kq)
    have G343 : Go p e below A0 (T341.setTop (mkF m 19 #[.val (.ref a), .unset, .unset] [(.int 0), (.ref a)])) := fun tq kq => G342 tq (by
      refine XS.sipush X341.here hx rfl (hb hby d5_11) ?_
      refine XS.icmpNo X341.here hx rfl (hb hby d5_14) rfl (by decide) ?_
      refine XS.aloadN X341.here hx rfl (hb hby d5_17) rfl rfl ?_
      refine XS.iconst X341.here hx rfl (hb hby d5_18) ?_
      exact kq)
    obtain ⟨cq344, kq344, q344a, q344b, q344c⟩ := isOf hZ e341 E
    obtain ⟨_, _, ⟨T344, L344, k344, n344⟩, -, X344, ⟨Lc344, hQ344, l344, y344, z344⟩, st344⟩ := X341.virtualBack hx (y := (⟨"java/lang/String", "charAt", "(I)C"⟩ : MethodName)) (z := (⟨"java/lang/String", "charAt", "(I)C"⟩ : MethodName)) hown (mvT hZ (wd hw 61 rfl)) (mvT hZ (wd hw 62 rfl)) (notFace_of_selects (args := #[]) (mvT hZ (wd hw 64 rfl))) (mvT hZ (wd hw 64 rfl)) (mvT hZ (wd hw 63 rfl)) (by decide) (backOf (W := 0) (rmCAL l Z a0 hw [] a b kb (own_cf u0 u1 u2) (0 : Int32) (3 : Int32) (6 : Int32) cs fo h0 n0 Z0 E Fv Fc Ab ⟨by decide, by decide, by decide⟩ ⟨by decide, by decide⟩ ru0 lu0 hCS hcs hSF hfo hAD hHI hLO hold) hZ (wd hw 65 rfl) (wd hw 8 rfl) (by decide) (by decide)) q344a q344c (g := (mkF m 19 #[.val (.ref a), .unset, .unset] [(.int 0), (.ref a)])) rfl (by rw [hml]; rfl) (Steps.refl _) (argsL := [(.int 0)]) (rest := []) (lenOf pd_9 rfl) rfl (by show 2 * 0 + _ ≤ _; exact Nat.le_of_eq rfl) (hb hby d5_19) (fun _ _ => ⟨rfl, e341, (by decide : 0 + 0 ≤ _), (by decide : 0 + 0 ≤ _)⟩)
    dsimp only [Pt.U, Pt.locs, Pt.cells, Pt.slots] at X344 l344 y344 z344 st344 hQ344
    obtain rfl : k344 = 0 := y344
    obtain rfl : n344 = 0 := z344
    obtain ⟨rfl, N344q, e344⟩ := hQ344
    have N344 : Fr n0 L344 := by rw [l344]; exact Fr.app N341 N344q
    have G345 : Go p e below A0 (T344.setTop (mkF m 22 #[.val (.ref a), .unset, .unset] [(.int u0)])) := fun tq kq => G343 tq (st344.trans kq)
    obtain ⟨_, _, ⟨T346, L346, k346, n346⟩, -, X346, ⟨Lc346, hQ346, l346, y346, z346⟩, st346⟩ := Jvm.LawKit.callS X344 hx (y := (⟨"com/example/role_delegation/roledelegation/Names", "isLetterOrDigit", "(C)Z"⟩ : MethodName)) hown (mvT hZ (wd hw 83 rfl)) (mvT hZ (wd hw 84 rfl)) (mvT hZ (wd hw 30 rfl)) (mvT hZ (wd hw 85 rfl)) (by decide) (backOf (W := 0) (rmLD l Z a0 hw [] u0 h0 n0 Z0 ) hZ (wd hw 85 rfl) (wd hw 30 rfl) (by decide) (by decide)) (g := (mkF m 22 #[.val (.ref a), .unset, .unset] [(.int u0)])) rfl (by rw [hml]; rfl) (argsL := [(.int u0)]) (rest := []) (lenOf pd_7 rfl) rfl (by show 2 * 0 + _ ≤ _; exact Nat.le_of_eq rfl) (hb hby d5_22) (fun _ _ => ⟨rfl, e344, (by decide : 0 + 0 ≤ _), (by decide : 0 + 0 ≤ _)⟩)
    dsimp only [Pt.U, Pt.locs, Pt.cells, Pt.slots] at X346 l346 y346 z346 st346 hQ346
    obtain rfl : k346 = 0 := y346
    obtain rfl : n346 = 0 := z346
    obtain ⟨rfl, N346q, e346⟩ := hQ346
    have N346 : Fr n0 L346 := by rw [l346]; exact Fr.app N344 N346q
    have G347 : Go p e below A0 (T346.setTop (mkF m 25 #[.val (.ref a), .unset, .unset] [(.int (own_b (own_ld u0)))])) := fun tq kq => G345 tq (st346 _ kq)
    by_cases hc348 : (own_ld u0)
    · have G349 : Go p e below A0 (T346.setTop (mkF m 34 #[.val (.ref a), .val (.int 1), .unset] [(.ref a), (.int 1)])) := fun tq kq => G347 tq (by
        refine XS.ifYes X346.here hx rfl (pc0 := 25) (pc' := 30) rfl (hb hby d5_25) rfl ((if0 _ _).trans (feq (own_b1 hc348)).2) (by decide) (by decide) ?_
        refine XS.iconst X346.here hx rfl (hb hby d5_30) ?_
        refine XS.istoreN X346.here hx rfl (hb hby d5_31) rfl (l' := #[.val (.ref a), .val (.int 1), .unset]) rfl ?_
        refine XS.iloadN X346.here hx rfl (hb hby d5_32) rfl ?_
        refine XS.aloadN X346.here hx rfl (hb hby d5_33) rfl rfl ?_
        exact kq)
      obtain ⟨cq350, kq350, q350a, q350b, q350c⟩ := isOf hZ e346 E
      obtain ⟨_, _, ⟨T350, L350, k350, n350⟩, -, X350, ⟨Lc350, hQ350, l350, y350, z350⟩, st350⟩ := X346.virtualBack hx (y := (⟨"java/lang/String", "length", "()I"⟩ : MethodName)) (z := (⟨"java/lang/String", "length", "()I"⟩ : MethodName)) hown (mvT hZ (wd hw 51 rfl)) (mvT hZ (wd hw 52 rfl)) (notFace_of_selects (args := #[]) (mvT hZ (wd hw 54 rfl))) (mvT hZ (wd hw 54 rfl)) (mvT hZ (wd hw 53 rfl)) (by decide) (backOf (W := 1) (rmLeL l Z a0 hw [] a b kb (own_cf u0 u1 u2) (3 : Int32) (6 : Int32) cs fo h0 n0 Z0 E Fv Fc Ab ⟨by decide, by decide, by decide⟩ hCS hcs hSF hfo hAD hHI hLO hold) hZ (wd hw 55 rfl) (wd hw 8 rfl) (by decide) (by decide)) q350a q350c (g := (mkF m 34 #[.val (.ref a), .val (.int 1), .unset] [(.ref a), (.int 1)])) rfl (by rw [hml]; rfl) (Steps.refl _) (argsL := []) (rest := [(.int 1)]) (lenOf pd_8 rfl) rfl (by show 2 * 0 + _ ≤ _; exact Nat.le_of_eq rfl) (hb hby d5_34) (fun _ _ => ⟨rfl, e346, (by decide : 0 + 0 ≤ _), (by decide : 0 + 0 ≤ _)⟩)
      dsimp only [Pt.U, Pt.locs, Pt.cells, Pt.slots] at X350 l350 y350 z350 st350 hQ350
      obtain rfl : k350 = 0 := y350
      obtain rfl : n350 = 0 := z350
      obtain ⟨rfl, N350q, e350⟩ := hQ350
      have N350 : Fr n0 L350 := by rw [l350]; exact Fr.app N346 N350q
      have G351 : Go p e below A0 (T350.setTop (mkF m 37 #[.val (.ref a), .val (.int 1), .unset] [(.int 3), (.int 1)])) := fun tq kq => G349 tq (st350.trans kq)
      have G352 : Go p e below A0 (T350.setTop (mkF m 42 #[.val (.ref a), .val (.int 1), .unset] [(.int 1), (.ref a)])) := fun tq kq => G351 tq (by
        refine XS.icmpNo X350.here hx rfl (hb hby d5_37) rfl (by decide) ?_
        refine XS.aloadN X350.here hx rfl (hb hby d5_40) rfl rfl ?_
        refine XS.iloadN X350.here hx rfl (hb hby d5_41) rfl ?_
        exact kq)
      obtain ⟨cq353, kq353, q353a, q353b, q353c⟩ := isOf hZ e350 E
      obtain ⟨_, _, ⟨T353, L353, k353, n353⟩, -, X353, ⟨Lc353, hQ353, l353, y353, z353⟩, st353⟩ := X350.virtualBack hx (y := (⟨"java/lang/String", "charAt", "(I)C"⟩ : MethodName)) (z := (⟨"java/lang/String", "charAt", "(I)C"⟩ : MethodName)) hown (mvT hZ (wd hw 61 rfl)) (mvT hZ (wd hw 62 rfl)) (notFace_of_selects (args := #[]) (mvT hZ (wd hw 64 rfl))) (mvT hZ (wd hw 64 rfl)) (mvT hZ (wd hw 63 rfl)) (by decide) (backOf (W := 0) (rmCAL l Z a0 hw [] a b kb (own_cf u0 u1 u2) (1 : Int32) (3 : Int32) (6 : Int32) cs fo h0 n0 Z0 E Fv Fc Ab ⟨by decide, by decide, by decide⟩ ⟨by decide, by decide⟩ ru1 lu1 hCS hcs hSF hfo hAD hHI hLO hold) hZ (wd hw 65 rfl) (wd hw 8 rfl) (by decide) (by decide)) q353a q353c (g := (mkF m 42 #[.val (.ref a), .val (.int 1), .unset] [(.int 1), (.ref a)])) rfl (by rw [hml]; rfl) (Steps.refl _) (argsL := [(.int 1)]) (rest := []) (lenOf pd_9 rfl) rfl (by show 2 * 0 + _ ≤ _; exact Nat.le_of_eq rfl) (hb hby d5_42) (fun _ _ => ⟨rfl, e350, (by decide : 0 + 0 ≤ _), (by decide : 0 + 0 ≤ _)⟩)
      dsimp only [Pt.U, Pt.locs, Pt.cells, Pt.slots] at X353 l353 y353 z353 st353 hQ353
      obtain rfl : k353 = 0 := y353
      obtain rfl : n353 = 0 := z353
      obtain ⟨rfl, N353q, e353⟩ := hQ353
      have N353 : Fr n0 L353 := by rw [l353]; exact Fr.app N350 N353q
      have G354 : Go p e below A0 (T353.setTop (mkF m 45 #[.val (.ref a), .val (.int 1), .unset] [(.int u1)])) := fun tq kq => G352 tq (st353.trans kq)
      have G356 : Go p e below A0 (T353.setTop (mkF m 46 #[.val (.ref a), .val (.int 1), .val (.int u1)] [])) := fun tq kq => G354 tq (by
        refine XS.istoreN X353.here hx rfl (hb hby d5_45) rfl (l' := #[.val (.ref a), .val (.int 1), .val (.int u1)]) rfl ?_
        exact kq)
      by_cases ht355 : own_tl u1
      · obtain ⟨T357, Lc357, X357, e357, N357, hG357, G357⟩ : ∃ (T357 : State) (Lc357 : List Loc) , Stand p l e (Rm 5 0 0 66) s m #[(.ref a)] below meth c T357 Lc357 0 0 ∧ T357.heap = h0 ∧ Fr n0 Lc357 ∧ (True) ∧ Go p e below A0 (T357.setTop (mkF m 79 #[.val (.ref a), .val (.int 1), .val (.int u1)] [])) := by
          have G358 : Go p e below A0 (T353.setTop (mkF m 47 #[.val (.ref a), .val (.int 1), .val (.int u1)] [(.int u1)])) := fun tq kq => G356 tq (by
            refine XS.iloadN X353.here hx rfl (hb hby d5_46) rfl ?_
            exact kq)
          obtain ⟨_, _, ⟨T359, L359, k359, n359⟩, -, X359, ⟨Lc359, hQ359, l359, y359, z359⟩, st359⟩ := Jvm.LawKit.callS X353 hx (y := (⟨"com/example/role_delegation/roledelegation/Names", "isLetterOrDigit", "(C)Z"⟩ : MethodName)) hown (mvT hZ (wd hw 83 rfl)) (mvT hZ (wd hw 84 rfl)) (mvT hZ (wd hw 30 rfl)) (mvT hZ (wd hw 85 rfl)) (by decide) (backOf (W := 0) (rmLD l Z a0 hw [] u1 h0 n0 Z0 ) hZ (wd hw 85 rfl) (wd hw 30 rfl) (by decide) (by decide)) (g := (mkF m 47 #[.val (.ref a), .val (.int 1), .val (.int u1)] [(.int u1)])) rfl (by rw [hml]; rfl) (argsL := [(.int u1)]) (rest := []) (lenOf pd_7 rfl) rfl (by show 2 * 0 + _ ≤ _; exact Nat.le_of_eq rfl) (hb hby d5_47) (fun _ _ => ⟨rfl, e353, (by decide : 0 + 0 ≤ _), (by decide : 0 + 0 ≤ _)⟩)
          dsimp only [Pt.U, Pt.locs, Pt.cells, Pt.slots] at X359 l359 y359 z359 st359 hQ359
          obtain rfl : k359 = 0 := y359
          obtain rfl : n359 = 0 := z359
          obtain ⟨rfl, N359q, e359⟩ := hQ359
          have N359 : Fr n0 L359 := by rw [l359]; exact Fr.app N353 N359q
          have G360 : Go p e below A0 (T359.setTop (mkF m 50 #[.val (.ref a), .val (.int 1), .val (.int u1)] [(.int (own_b (own_ld u1)))])) := fun tq kq => G358 tq (st359 _ kq)
          by_cases hc361 : (own_ld u1)
          · have G362 : Go p e below A0 (T359.setTop (mkF m 79 #[.val (.ref a), .val (.int 1), .val (.int u1)] [])) := fun tq kq => G360 tq (by
              refine XS.ifYes X359.here hx rfl (pc0 := 50) (pc' := 79) rfl (hb hby d5_50) rfl ((if0 _ _).trans (feq (own_b1 hc361)).2) (by decide) (by decide) ?_
              exact kq)
            exact ⟨T359, _, X359, e359, N359, (by trivial), G362⟩
          · have G363 : Go p e below A0 (T359.setTop (mkF m 56 #[.val (.ref a), .val (.int 1), .val (.int u1)] [(.int 95), (.int u1)])) := fun tq kq => G360 tq (by
              refine XS.ifNo X359.here hx rfl (hb hby d5_50) rfl ((if0 _ _).trans (teq (own_b0 hc361)).2) ?_
              refine XS.iloadN X359.here hx rfl (hb hby d5_53) rfl ?_
              refine XS.bipush X359.here hx rfl (hb hby d5_54) ?_
              exact kq)
            by_cases hc364 : u1 = (95 : Int32)
            · have G365 : Go p e below A0 (T359.setTop (mkF m 79 #[.val (.ref a), .val (.int 1), .val (.int u1)] [])) := fun tq kq => G363 tq (by
                refine XS.icmpYes X359.here hx rfl (pc0 := 56) (pc' := 79) rfl (hb hby d5_56) rfl (teq hc364).1 (by decide) (by decide) ?_
                exact kq)
              exact ⟨T359, _, X359, e359, N359, (by trivial), G365⟩
            · have G366 : Go p e below A0 (T359.setTop (mkF m 62 #[.val (.ref a), .val (.int 1), .val (.int u1)] [(.int 46), (.int u1)])) := fun tq kq => G363 tq (by
                refine XS.icmpNo X359.here hx rfl (hb hby d5_56) rfl (feq hc364).1 ?_
                refine XS.iloadN X359.here hx rfl (hb hby d5_59) rfl ?_
                refine XS.bipush X359.here hx rfl (hb hby d5_60) ?_
                exact kq)
              by_cases hc367 : u1 = (46 : Int32)
              · have G368 : Go p e below A0 (T359.setTop (mkF m 79 #[.val (.ref a), .val (.int 1), .val (.int u1)] [])) := fun tq kq => G366 tq (by
                  refine XS.icmpYes X359.here hx rfl (pc0 := 62) (pc' := 79) rfl (hb hby d5_62) rfl (teq hc367).1 (by decide) (by decide) ?_
                  exact kq)
                exact ⟨T359, _, X359, e359, N359, (by trivial), G368⟩
              · have G369 : Go p e below A0 (T359.setTop (mkF m 68 #[.val (.ref a), .val (.int 1), .val (.int u1)] [(.int 58), (.int u1)])) := fun tq kq => G366 tq (by
                  refine XS.icmpNo X359.here hx rfl (hb hby d5_62) rfl (feq hc367).1 ?_
                  refine XS.iloadN X359.here hx rfl (hb hby d5_65) rfl ?_
                  refine XS.bipush X359.here hx rfl (hb hby d5_66) ?_
                  exact kq)
                by_cases hc370 : u1 = (58 : Int32)
                · have G371 : Go p e below A0 (T359.setTop (mkF m 79 #[.val (.ref a), .val (.int 1), .val (.int u1)] [])) := fun tq kq => G369 tq (by
                    refine XS.icmpYes X359.here hx rfl (pc0 := 68) (pc' := 79) rfl (hb hby d5_68) rfl (teq hc370).1 (by decide) (by decide) ?_
                    exact kq)
                  exact ⟨T359, _, X359, e359, N359, (by trivial), G371⟩
                · have G372 : Go p e below A0 (T359.setTop (mkF m 74 #[.val (.ref a), .val (.int 1), .val (.int u1)] [(.int 45), (.int u1)])) := fun tq kq => G369 tq (by
                    refine XS.icmpNo X359.here hx rfl (hb hby d5_68) rfl (feq hc370).1 ?_
                    refine XS.iloadN X359.here hx rfl (hb hby d5_71) rfl ?_
                    refine XS.bipush X359.here hx rfl (hb hby d5_72) ?_
                    exact kq)
                  by_cases hc373 : u1 = (45 : Int32)
                  · have G374 : Go p e below A0 (T359.setTop (mkF m 79 #[.val (.ref a), .val (.int 1), .val (.int u1)] [])) := fun tq kq => G372 tq (by
                      refine XS.icmpYes X359.here hx rfl (pc0 := 74) (pc' := 79) rfl (hb hby d5_74) rfl (teq hc373).1 (by decide) (by decide) ?_
                      exact kq)
                    exact ⟨T359, _, X359, e359, N359, (by trivial), G374⟩
                  · have G375 : Go p e below A0 (T359.setTop (mkF m 77 #[.val (.ref a), .val (.int 1), .val (.int u1)] [])) := fun tq kq => G372 tq (by
                      refine XS.icmpNo X359.here hx rfl (hb hby d5_74) rfl (feq hc373).1 ?_
                      exact kq)
                    exact absurd ht355 (by simp only [own_tl, hc361, hc364, hc367, hc370, hc373, or_self, not_false_eq_true])
        have G376 : Go p e below A0 (T357.setTop (mkF m 34 #[.val (.ref a), .val (.int 2), .val (.int u1)] [(.ref a), (.int 2)])) := fun tq kq => G357 tq (by
          refine XS.iinc X357.here hx rfl (hb hby d5_79) rfl (l' := #[.val (.ref a), .val (.int ((1 : Int32) + (1 : Int32))), .val (.int u1)]) rfl ?_
          show Steps p.tables e below (T357.setTop (mkF m 82 #[.val (.ref a), .val (.int ((1 : Int32) + (1 : Int32))), .val (.int u1)] [])) _
          rw [show ((1 : Int32) + (1 : Int32)) = (2 : Int32) from (by decide : ((1 : Int32) + (1 : Int32)) = (2 : Int32))]
          show Steps p.tables e below (T357.setTop (mkF m 82 #[.val (.ref a), .val (.int 2), .val (.int u1)] [])) _
          refine XS.goto X357.here hx rfl (pc0 := 82) (pc' := 32) rfl (hb hby d5_82) (by decide) (by decide) ?_
          refine XS.iloadN X357.here hx rfl (hb hby d5_32) rfl ?_
          refine XS.aloadN X357.here hx rfl (hb hby d5_33) rfl rfl ?_
          exact kq)
        obtain ⟨cq377, kq377, q377a, q377b, q377c⟩ := isOf hZ e357 E
        obtain ⟨_, _, ⟨T377, L377, k377, n377⟩, -, X377, ⟨Lc377, hQ377, l377, y377, z377⟩, st377⟩ := X357.virtualBack hx (y := (⟨"java/lang/String", "length", "()I"⟩ : MethodName)) (z := (⟨"java/lang/String", "length", "()I"⟩ : MethodName)) hown (mvT hZ (wd hw 51 rfl)) (mvT hZ (wd hw 52 rfl)) (notFace_of_selects (args := #[]) (mvT hZ (wd hw 54 rfl))) (mvT hZ (wd hw 54 rfl)) (mvT hZ (wd hw 53 rfl)) (by decide) (backOf (W := 1) (rmLeL l Z a0 hw [] a b kb (own_cf u0 u1 u2) (3 : Int32) (6 : Int32) cs fo h0 n0 Z0 E Fv Fc Ab ⟨by decide, by decide, by decide⟩ hCS hcs hSF hfo hAD hHI hLO hold) hZ (wd hw 55 rfl) (wd hw 8 rfl) (by decide) (by decide)) q377a q377c (g := (mkF m 34 #[.val (.ref a), .val (.int 2), .val (.int u1)] [(.ref a), (.int 2)])) rfl (by rw [hml]; rfl) (Steps.refl _) (argsL := []) (rest := [(.int 2)]) (lenOf pd_8 rfl) rfl (by show 2 * 0 + _ ≤ _; exact Nat.le_of_eq rfl) (hb hby d5_34) (fun _ _ => ⟨rfl, e357, (by decide : 0 + 0 ≤ _), (by decide : 0 + 0 ≤ _)⟩)
        dsimp only [Pt.U, Pt.locs, Pt.cells, Pt.slots] at X377 l377 y377 z377 st377 hQ377
        obtain rfl : k377 = 0 := y377
        obtain rfl : n377 = 0 := z377
        obtain ⟨rfl, N377q, e377⟩ := hQ377
        have N377 : Fr n0 L377 := by rw [l377]; exact Fr.app N357 N377q
        have G378 : Go p e below A0 (T377.setTop (mkF m 37 #[.val (.ref a), .val (.int 2), .val (.int u1)] [(.int 3), (.int 2)])) := fun tq kq => G376 tq (st377.trans kq)
        have G379 : Go p e below A0 (T377.setTop (mkF m 42 #[.val (.ref a), .val (.int 2), .val (.int u1)] [(.int 2), (.ref a)])) := fun tq kq => G378 tq (by
          refine XS.icmpNo X377.here hx rfl (hb hby d5_37) rfl (by decide) ?_
          refine XS.aloadN X377.here hx rfl (hb hby d5_40) rfl rfl ?_
          refine XS.iloadN X377.here hx rfl (hb hby d5_41) rfl ?_
          exact kq)
        obtain ⟨cq380, kq380, q380a, q380b, q380c⟩ := isOf hZ e377 E
        obtain ⟨_, _, ⟨T380, L380, k380, n380⟩, -, X380, ⟨Lc380, hQ380, l380, y380, z380⟩, st380⟩ := X377.virtualBack hx (y := (⟨"java/lang/String", "charAt", "(I)C"⟩ : MethodName)) (z := (⟨"java/lang/String", "charAt", "(I)C"⟩ : MethodName)) hown (mvT hZ (wd hw 61 rfl)) (mvT hZ (wd hw 62 rfl)) (notFace_of_selects (args := #[]) (mvT hZ (wd hw 64 rfl))) (mvT hZ (wd hw 64 rfl)) (mvT hZ (wd hw 63 rfl)) (by decide) (backOf (W := 0) (rmCAL l Z a0 hw [] a b kb (own_cf u0 u1 u2) (2 : Int32) (3 : Int32) (6 : Int32) cs fo h0 n0 Z0 E Fv Fc Ab ⟨by decide, by decide, by decide⟩ ⟨by decide, by decide⟩ ru2 lu2 hCS hcs hSF hfo hAD hHI hLO hold) hZ (wd hw 65 rfl) (wd hw 8 rfl) (by decide) (by decide)) q380a q380c (g := (mkF m 42 #[.val (.ref a), .val (.int 2), .val (.int u1)] [(.int 2), (.ref a)])) rfl (by rw [hml]; rfl) (Steps.refl _) (argsL := [(.int 2)]) (rest := []) (lenOf pd_9 rfl) rfl (by show 2 * 0 + _ ≤ _; exact Nat.le_of_eq rfl) (hb hby d5_42) (fun _ _ => ⟨rfl, e377, (by decide : 0 + 0 ≤ _), (by decide : 0 + 0 ≤ _)⟩)
        dsimp only [Pt.U, Pt.locs, Pt.cells, Pt.slots] at X380 l380 y380 z380 st380 hQ380
        obtain rfl : k380 = 0 := y380
        obtain rfl : n380 = 0 := z380
        obtain ⟨rfl, N380q, e380⟩ := hQ380
        have N380 : Fr n0 L380 := by rw [l380]; exact Fr.app N377 N380q
        have G381 : Go p e below A0 (T380.setTop (mkF m 45 #[.val (.ref a), .val (.int 2), .val (.int u1)] [(.int u2)])) := fun tq kq => G379 tq (st380.trans kq)
        have G383 : Go p e below A0 (T380.setTop (mkF m 46 #[.val (.ref a), .val (.int 2), .val (.int u2)] [])) := fun tq kq => G381 tq (by
          refine XS.istoreN X380.here hx rfl (hb hby d5_45) rfl (l' := #[.val (.ref a), .val (.int 2), .val (.int u2)]) rfl ?_
          exact kq)
        by_cases ht382 : own_tl u2
        · obtain ⟨T384, Lc384, X384, e384, N384, hG384, G384⟩ : ∃ (T384 : State) (Lc384 : List Loc) , Stand p l e (Rm 5 0 0 66) s m #[(.ref a)] below meth c T384 Lc384 0 0 ∧ T384.heap = h0 ∧ Fr n0 Lc384 ∧ (True) ∧ Go p e below A0 (T384.setTop (mkF m 79 #[.val (.ref a), .val (.int 2), .val (.int u2)] [])) := by
            have G385 : Go p e below A0 (T380.setTop (mkF m 47 #[.val (.ref a), .val (.int 2), .val (.int u2)] [(.int u2)])) := fun tq kq => G383 tq (by
              refine XS.iloadN X380.here hx rfl (hb hby d5_46) rfl ?_
              exact kq)
            obtain ⟨_, _, ⟨T386, L386, k386, n386⟩, -, X386, ⟨Lc386, hQ386, l386, y386, z386⟩, st386⟩ := Jvm.LawKit.callS X380 hx (y := (⟨"com/example/role_delegation/roledelegation/Names", "isLetterOrDigit", "(C)Z"⟩ : MethodName)) hown (mvT hZ (wd hw 83 rfl)) (mvT hZ (wd hw 84 rfl)) (mvT hZ (wd hw 30 rfl)) (mvT hZ (wd hw 85 rfl)) (by decide) (backOf (W := 0) (rmLD l Z a0 hw [] u2 h0 n0 Z0 ) hZ (wd hw 85 rfl) (wd hw 30 rfl) (by decide) (by decide)) (g := (mkF m 47 #[.val (.ref a), .val (.int 2), .val (.int u2)] [(.int u2)])) rfl (by rw [hml]; rfl) (argsL := [(.int u2)]) (rest := []) (lenOf pd_7 rfl) rfl (by show 2 * 0 + _ ≤ _; exact Nat.le_of_eq rfl) (hb hby d5_47) (fun _ _ => ⟨rfl, e380, (by decide : 0 + 0 ≤ _), (by decide : 0 + 0 ≤ _)⟩)
            dsimp only [Pt.U, Pt.locs, Pt.cells, Pt.slots] at X386 l386 y386 z386 st386 hQ386
            obtain rfl : k386 = 0 := y386
            obtain rfl : n386 = 0 := z386
            obtain ⟨rfl, N386q, e386⟩ := hQ386
            have N386 : Fr n0 L386 := by rw [l386]; exact Fr.app N380 N386q
            have G387 : Go p e below A0 (T386.setTop (mkF m 50 #[.val (.ref a), .val (.int 2), .val (.int u2)] [(.int (own_b (own_ld u2)))])) := fun tq kq => G385 tq (st386 _ kq)
            by_cases hc388 : (own_ld u2)
            · have G389 : Go p e below A0 (T386.setTop (mkF m 79 #[.val (.ref a), .val (.int 2), .val (.int u2)] [])) := fun tq kq => G387 tq (by
                refine XS.ifYes X386.here hx rfl (pc0 := 50) (pc' := 79) rfl (hb hby d5_50) rfl ((if0 _ _).trans (feq (own_b1 hc388)).2) (by decide) (by decide) ?_
                exact kq)
              exact ⟨T386, _, X386, e386, N386, (by trivial), G389⟩
            · have G390 : Go p e below A0 (T386.setTop (mkF m 56 #[.val (.ref a), .val (.int 2), .val (.int u2)] [(.int 95), (.int u2)])) := fun tq kq => G387 tq (by
                refine XS.ifNo X386.here hx rfl (hb hby d5_50) rfl ((if0 _ _).trans (teq (own_b0 hc388)).2) ?_
                refine XS.iloadN X386.here hx rfl (hb hby d5_53) rfl ?_
                refine XS.bipush X386.here hx rfl (hb hby d5_54) ?_
                exact kq)
              by_cases hc391 : u2 = (95 : Int32)
              · have G392 : Go p e below A0 (T386.setTop (mkF m 79 #[.val (.ref a), .val (.int 2), .val (.int u2)] [])) := fun tq kq => G390 tq (by
                  refine XS.icmpYes X386.here hx rfl (pc0 := 56) (pc' := 79) rfl (hb hby d5_56) rfl (teq hc391).1 (by decide) (by decide) ?_
                  exact kq)
                exact ⟨T386, _, X386, e386, N386, (by trivial), G392⟩
              · have G393 : Go p e below A0 (T386.setTop (mkF m 62 #[.val (.ref a), .val (.int 2), .val (.int u2)] [(.int 46), (.int u2)])) := fun tq kq => G390 tq (by
                  refine XS.icmpNo X386.here hx rfl (hb hby d5_56) rfl (feq hc391).1 ?_
                  refine XS.iloadN X386.here hx rfl (hb hby d5_59) rfl ?_
                  refine XS.bipush X386.here hx rfl (hb hby d5_60) ?_
                  exact kq)
                by_cases hc394 : u2 = (46 : Int32)
                · have G395 : Go p e below A0 (T386.setTop (mkF m 79 #[.val (.ref a), .val (.int 2), .val (.int u2)] [])) := fun tq kq => G393 tq (by
                    refine XS.icmpYes X386.here hx rfl (pc0 := 62) (pc' := 79) rfl (hb hby d5_62) rfl (teq hc394).1 (by decide) (by decide) ?_
                    exact kq)
                  exact ⟨T386, _, X386, e386, N386, (by trivial), G395⟩
                · have G396 : Go p e below A0 (T386.setTop (mkF m 68 #[.val (.ref a), .val (.int 2), .val (.int u2)] [(.int 58), (.int u2)])) := fun tq kq => G393 tq (by
                    refine XS.icmpNo X386.here hx rfl (hb hby d5_62) rfl (feq hc394).1 ?_
                    refine XS.iloadN X386.here hx rfl (hb hby d5_65) rfl ?_
                    refine XS.bipush X386.here hx rfl (hb hby d5_66) ?_
                    exact kq)
                  by_cases hc397 : u2 = (58 : Int32)
                  · have G398 : Go p e below A0 (T386.setTop (mkF m 79 #[.val (.ref a), .val (.int 2), .val (.int u2)] [])) := fun tq kq => G396 tq (by
                      refine XS.icmpYes X386.here hx rfl (pc0 := 68) (pc' := 79) rfl (hb hby d5_68) rfl (teq hc397).1 (by decide) (by decide) ?_
                      exact kq)
                    exact ⟨T386, _, X386, e386, N386, (by trivial), G398⟩
                  · have G399 : Go p e below A0 (T386.setTop (mkF m 74 #[.val (.ref a), .val (.int 2), .val (.int u2)] [(.int 45), (.int u2)])) := fun tq kq => G396 tq (by
                      refine XS.icmpNo X386.here hx rfl (hb hby d5_68) rfl (feq hc397).1 ?_
                      refine XS.iloadN X386.here hx rfl (hb hby d5_71) rfl ?_
                      refine XS.bipush X386.here hx rfl (hb hby d5_72) ?_
                      exact kq)
                    by_cases hc400 : u2 = (45 : Int32)
                    · have G401 : Go p e below A0 (T386.setTop (mkF m 79 #[.val (.ref a), .val (.int 2), .val (.int u2)] [])) := fun tq kq => G399 tq (by
                        refine XS.icmpYes X386.here hx rfl (pc0 := 74) (pc' := 79) rfl (hb hby d5_74) rfl (teq hc400).1 (by decide) (by decide) ?_
                        exact kq)
                      exact ⟨T386, _, X386, e386, N386, (by trivial), G401⟩
                    · have G402 : Go p e below A0 (T386.setTop (mkF m 77 #[.val (.ref a), .val (.int 2), .val (.int u2)] [])) := fun tq kq => G399 tq (by
                        refine XS.icmpNo X386.here hx rfl (hb hby d5_74) rfl (feq hc400).1 ?_
                        exact kq)
                      exact absurd ht382 (by simp only [own_tl, hc388, hc391, hc394, hc397, hc400, or_self, not_false_eq_true])
          have G403 : Go p e below A0 (T384.setTop (mkF m 34 #[.val (.ref a), .val (.int 3), .val (.int u2)] [(.ref a), (.int 3)])) := fun tq kq => G384 tq (by
            refine XS.iinc X384.here hx rfl (hb hby d5_79) rfl (l' := #[.val (.ref a), .val (.int ((2 : Int32) + (1 : Int32))), .val (.int u2)]) rfl ?_
            show Steps p.tables e below (T384.setTop (mkF m 82 #[.val (.ref a), .val (.int ((2 : Int32) + (1 : Int32))), .val (.int u2)] [])) _
            rw [show ((2 : Int32) + (1 : Int32)) = (3 : Int32) from (by decide : ((2 : Int32) + (1 : Int32)) = (3 : Int32))]
            show Steps p.tables e below (T384.setTop (mkF m 82 #[.val (.ref a), .val (.int 3), .val (.int u2)] [])) _
            refine XS.goto X384.here hx rfl (pc0 := 82) (pc' := 32) rfl (hb hby d5_82) (by decide) (by decide) ?_
            refine XS.iloadN X384.here hx rfl (hb hby d5_32) rfl ?_
            refine XS.aloadN X384.here hx rfl (hb hby d5_33) rfl rfl ?_
            exact kq)
          obtain ⟨cq404, kq404, q404a, q404b, q404c⟩ := isOf hZ e384 E
          obtain ⟨_, _, ⟨T404, L404, k404, n404⟩, -, X404, ⟨Lc404, hQ404, l404, y404, z404⟩, st404⟩ := X384.virtualBack hx (y := (⟨"java/lang/String", "length", "()I"⟩ : MethodName)) (z := (⟨"java/lang/String", "length", "()I"⟩ : MethodName)) hown (mvT hZ (wd hw 51 rfl)) (mvT hZ (wd hw 52 rfl)) (notFace_of_selects (args := #[]) (mvT hZ (wd hw 54 rfl))) (mvT hZ (wd hw 54 rfl)) (mvT hZ (wd hw 53 rfl)) (by decide) (backOf (W := 1) (rmLeL l Z a0 hw [] a b kb (own_cf u0 u1 u2) (3 : Int32) (6 : Int32) cs fo h0 n0 Z0 E Fv Fc Ab ⟨by decide, by decide, by decide⟩ hCS hcs hSF hfo hAD hHI hLO hold) hZ (wd hw 55 rfl) (wd hw 8 rfl) (by decide) (by decide)) q404a q404c (g := (mkF m 34 #[.val (.ref a), .val (.int 3), .val (.int u2)] [(.ref a), (.int 3)])) rfl (by rw [hml]; rfl) (Steps.refl _) (argsL := []) (rest := [(.int 3)]) (lenOf pd_8 rfl) rfl (by show 2 * 0 + _ ≤ _; exact Nat.le_of_eq rfl) (hb hby d5_34) (fun _ _ => ⟨rfl, e384, (by decide : 0 + 0 ≤ _), (by decide : 0 + 0 ≤ _)⟩)
          dsimp only [Pt.U, Pt.locs, Pt.cells, Pt.slots] at X404 l404 y404 z404 st404 hQ404
          obtain rfl : k404 = 0 := y404
          obtain rfl : n404 = 0 := z404
          obtain ⟨rfl, N404q, e404⟩ := hQ404
          have N404 : Fr n0 L404 := by rw [l404]; exact Fr.app N384 N404q
          have G405 : Go p e below A0 (T404.setTop (mkF m 37 #[.val (.ref a), .val (.int 3), .val (.int u2)] [(.int 3), (.int 3)])) := fun tq kq => G403 tq (st404.trans kq)
          have G406 : Go p e below A0 (T404.setTop (mkF m 86 #[.val (.ref a), .val (.int 3), .val (.int u2)] [(.int 1)])) := fun tq kq => G405 tq (by
            refine XS.icmpYes X404.here hx rfl (pc0 := 37) (pc' := 85) rfl (hb hby d5_37) rfl (by decide) (by decide) (by decide) ?_
            refine XS.iconst X404.here hx rfl (hb hby d5_85) ?_
            exact kq)
          obtain ⟨fs, hr, hrun, hended, hW, hsame⟩ := X404.leave (v := some (.int (nar .boolean (1 : Int32)))) (fun h => by rw [Bd.returns] at h; cases h)
          refine ⟨_, _, (by rw [← hA0]; exact G406 _ (retN X404 hx (t := .boolean) Bd.returns (by simp) (hb hby d5_86) hr)), hrun, hended, _, _, rfl, ?_, ⟨_, rfl⟩, hW, hsame.mono (by decide) (by decide)⟩
          exact ⟨(by rw [show own_b (own_ld u0 ∧ own_tl u1 ∧ own_tl u2) = (1 : Int32) from by simp only [own_b, hc348, ht355, ht382, not_true_eq_false, not_false_eq_true, if_true, if_false, or_true, true_or, or_false, false_or, and_true, true_and, and_false, false_and, and_self, or_self]]; rfl), N404, e404⟩
        · skip
          have G407 : Go p e below A0 (T380.setTop (mkF m 47 #[.val (.ref a), .val (.int 2), .val (.int u2)] [(.int u2)])) := fun tq kq => G383 tq (by
            refine XS.iloadN X380.here hx rfl (hb hby d5_46) rfl ?_
            exact kq)
          obtain ⟨_, _, ⟨T408, L408, k408, n408⟩, -, X408, ⟨Lc408, hQ408, l408, y408, z408⟩, st408⟩ := Jvm.LawKit.callS X380 hx (y := (⟨"com/example/role_delegation/roledelegation/Names", "isLetterOrDigit", "(C)Z"⟩ : MethodName)) hown (mvT hZ (wd hw 83 rfl)) (mvT hZ (wd hw 84 rfl)) (mvT hZ (wd hw 30 rfl)) (mvT hZ (wd hw 85 rfl)) (by decide) (backOf (W := 0) (rmLD l Z a0 hw [] u2 h0 n0 Z0 ) hZ (wd hw 85 rfl) (wd hw 30 rfl) (by decide) (by decide)) (g := (mkF m 47 #[.val (.ref a), .val (.int 2), .val (.int u2)] [(.int u2)])) rfl (by rw [hml]; rfl) (argsL := [(.int u2)]) (rest := []) (lenOf pd_7 rfl) rfl (by show 2 * 0 + _ ≤ _; exact Nat.le_of_eq rfl) (hb hby d5_47) (fun _ _ => ⟨rfl, e380, (by decide : 0 + 0 ≤ _), (by decide : 0 + 0 ≤ _)⟩)
          dsimp only [Pt.U, Pt.locs, Pt.cells, Pt.slots] at X408 l408 y408 z408 st408 hQ408
          obtain rfl : k408 = 0 := y408
          obtain rfl : n408 = 0 := z408
          obtain ⟨rfl, N408q, e408⟩ := hQ408
          have N408 : Fr n0 L408 := by rw [l408]; exact Fr.app N380 N408q
          have G409 : Go p e below A0 (T408.setTop (mkF m 50 #[.val (.ref a), .val (.int 2), .val (.int u2)] [(.int (own_b (own_ld u2)))])) := fun tq kq => G407 tq (st408 _ kq)
          have G410 : Go p e below A0 (T408.setTop (mkF m 78 #[.val (.ref a), .val (.int 2), .val (.int u2)] [(.int 0)])) := fun tq kq => G409 tq (by
            refine XS.ifNo X408.here hx rfl (hb hby d5_50) rfl ((if0 _ _).trans (teq (own_b0 (fun q => ht382 (Or.inl q)))).2) ?_
            refine XS.iloadN X408.here hx rfl (hb hby d5_53) rfl ?_
            refine XS.bipush X408.here hx rfl (hb hby d5_54) ?_
            refine XS.icmpNo X408.here hx rfl (hb hby d5_56) rfl (feq (fun q => ht382 (Or.inr (Or.inl q)))).1 ?_
            refine XS.iloadN X408.here hx rfl (hb hby d5_59) rfl ?_
            refine XS.bipush X408.here hx rfl (hb hby d5_60) ?_
            refine XS.icmpNo X408.here hx rfl (hb hby d5_62) rfl (feq (fun q => ht382 (Or.inr (Or.inr (Or.inl q))))).1 ?_
            refine XS.iloadN X408.here hx rfl (hb hby d5_65) rfl ?_
            refine XS.bipush X408.here hx rfl (hb hby d5_66) ?_
            refine XS.icmpNo X408.here hx rfl (hb hby d5_68) rfl (feq (fun q => ht382 (Or.inr (Or.inr (Or.inr (Or.inl q)))))).1 ?_
            refine XS.iloadN X408.here hx rfl (hb hby d5_71) rfl ?_
            refine XS.bipush X408.here hx rfl (hb hby d5_72) ?_
            refine XS.icmpNo X408.here hx rfl (hb hby d5_74) rfl (feq (fun q => ht382 (Or.inr (Or.inr (Or.inr (Or.inr q)))))).1 ?_
            refine XS.iconst X408.here hx rfl (hb hby d5_77) ?_
            exact kq)
          obtain ⟨fs, hr, hrun, hended, hW, hsame⟩ := X408.leave (v := some (.int (nar .boolean (0 : Int32)))) (fun h => by rw [Bd.returns] at h; cases h)
          refine ⟨_, _, (by rw [← hA0]; exact G410 _ (retN X408 hx (t := .boolean) Bd.returns (by simp) (hb hby d5_78) hr)), hrun, hended, _, _, rfl, ?_, ⟨_, rfl⟩, hW, hsame.mono (by decide) (by decide)⟩
          exact ⟨(by rw [show own_b (own_ld u0 ∧ own_tl u1 ∧ own_tl u2) = (0 : Int32) from by simp only [own_b, hc348, ht355, ht382, not_true_eq_false, not_false_eq_true, if_true, if_false, or_true, true_or, or_false, false_or, and_true, true_and, and_false, false_and, and_self, or_self]]; rfl), N408, e408⟩
      · skip
        have G411 : Go p e below A0 (T353.setTop (mkF m 47 #[.val (.ref a), .val (.int 1), .val (.int u1)] [(.int u1)])) := fun tq kq => G356 tq (by
          refine XS.iloadN X353.here hx rfl (hb hby d5_46) rfl ?_
          exact kq)
        obtain ⟨_, _, ⟨T412, L412, k412, n412⟩, -, X412, ⟨Lc412, hQ412, l412, y412, z412⟩, st412⟩ := Jvm.LawKit.callS X353 hx (y := (⟨"com/example/role_delegation/roledelegation/Names", "isLetterOrDigit", "(C)Z"⟩ : MethodName)) hown (mvT hZ (wd hw 83 rfl)) (mvT hZ (wd hw 84 rfl)) (mvT hZ (wd hw 30 rfl)) (mvT hZ (wd hw 85 rfl)) (by decide) (backOf (W := 0) (rmLD l Z a0 hw [] u1 h0 n0 Z0 ) hZ (wd hw 85 rfl) (wd hw 30 rfl) (by decide) (by decide)) (g := (mkF m 47 #[.val (.ref a), .val (.int 1), .val (.int u1)] [(.int u1)])) rfl (by rw [hml]; rfl) (argsL := [(.int u1)]) (rest := []) (lenOf pd_7 rfl) rfl (by show 2 * 0 + _ ≤ _; exact Nat.le_of_eq rfl) (hb hby d5_47) (fun _ _ => ⟨rfl, e353, (by decide : 0 + 0 ≤ _), (by decide : 0 + 0 ≤ _)⟩)
        dsimp only [Pt.U, Pt.locs, Pt.cells, Pt.slots] at X412 l412 y412 z412 st412 hQ412
        obtain rfl : k412 = 0 := y412
        obtain rfl : n412 = 0 := z412
        obtain ⟨rfl, N412q, e412⟩ := hQ412
        have N412 : Fr n0 L412 := by rw [l412]; exact Fr.app N353 N412q
        have G413 : Go p e below A0 (T412.setTop (mkF m 50 #[.val (.ref a), .val (.int 1), .val (.int u1)] [(.int (own_b (own_ld u1)))])) := fun tq kq => G411 tq (st412 _ kq)
        have G414 : Go p e below A0 (T412.setTop (mkF m 78 #[.val (.ref a), .val (.int 1), .val (.int u1)] [(.int 0)])) := fun tq kq => G413 tq (by
          refine XS.ifNo X412.here hx rfl (hb hby d5_50) rfl ((if0 _ _).trans (teq (own_b0 (fun q => ht355 (Or.inl q)))).2) ?_
          refine XS.iloadN X412.here hx rfl (hb hby d5_53) rfl ?_
          refine XS.bipush X412.here hx rfl (hb hby d5_54) ?_
          refine XS.icmpNo X412.here hx rfl (hb hby d5_56) rfl (feq (fun q => ht355 (Or.inr (Or.inl q)))).1 ?_
          refine XS.iloadN X412.here hx rfl (hb hby d5_59) rfl ?_
          refine XS.bipush X412.here hx rfl (hb hby d5_60) ?_
          refine XS.icmpNo X412.here hx rfl (hb hby d5_62) rfl (feq (fun q => ht355 (Or.inr (Or.inr (Or.inl q))))).1 ?_
          refine XS.iloadN X412.here hx rfl (hb hby d5_65) rfl ?_
          refine XS.bipush X412.here hx rfl (hb hby d5_66) ?_
          refine XS.icmpNo X412.here hx rfl (hb hby d5_68) rfl (feq (fun q => ht355 (Or.inr (Or.inr (Or.inr (Or.inl q)))))).1 ?_
          refine XS.iloadN X412.here hx rfl (hb hby d5_71) rfl ?_
          refine XS.bipush X412.here hx rfl (hb hby d5_72) ?_
          refine XS.icmpNo X412.here hx rfl (hb hby d5_74) rfl (feq (fun q => ht355 (Or.inr (Or.inr (Or.inr (Or.inr q)))))).1 ?_
          refine XS.iconst X412.here hx rfl (hb hby d5_77) ?_
          exact kq)
        obtain ⟨fs, hr, hrun, hended, hW, hsame⟩ := X412.leave (v := some (.int (nar .boolean (0 : Int32)))) (fun h => by rw [Bd.returns] at h; cases h)
        refine ⟨_, _, (by rw [← hA0]; exact G414 _ (retN X412 hx (t := .boolean) Bd.returns (by simp) (hb hby d5_78) hr)), hrun, hended, _, _, rfl, ?_, ⟨_, rfl⟩, hW, hsame.mono (by decide) (by decide)⟩
        exact ⟨(by rw [show own_b (own_ld u0 ∧ own_tl u1 ∧ own_tl u2) = (0 : Int32) from by simp only [own_b, hc348, ht355, not_true_eq_false, not_false_eq_true, if_true, if_false, or_true, true_or, or_false, false_or, and_true, true_and, and_false, false_and, and_self, or_self]]; rfl), N412, e412⟩
    · have G415 : Go p e below A0 (T346.setTop (mkF m 29 #[.val (.ref a), .unset, .unset] [(.int 0)])) := fun tq kq => G347 tq (by
        refine XS.ifNo X346.here hx rfl (hb hby d5_25) rfl ((if0 _ _).trans (teq (own_b0 hc348)).2) ?_
        refine XS.iconst X346.here hx rfl (hb hby d5_28) ?_
        exact kq)
      obtain ⟨fs, hr, hrun, hended, hW, hsame⟩ := X346.leave (v := some (.int (nar .boolean (0 : Int32)))) (fun h => by rw [Bd.returns] at h; cases h)
      refine ⟨_, _, (by rw [← hA0]; exact G415 _ (retN X346 hx (t := .boolean) Bd.returns (by simp) (hb hby d5_29) hr)), hrun, hended, _, _, rfl, ?_, ⟨_, rfl⟩, hW, hsame.mono (by decide) (by decide)⟩
      exact ⟨(by rw [show own_b (own_ld u0 ∧ own_tl u1 ∧ own_tl u2) = (0 : Int32) from by simp only [own_b, hc348, not_true_eq_false, not_false_eq_true, if_true, if_false, or_true, true_or, or_false, false_or, and_true, true_and, and_false, false_and, and_self, or_self]]; rfl), N346, e346⟩
  · skip
    have G416 : Go p e below A0 (s₁.setTop (mkF m 1 #[.val (.ref a), .unset, .unset] [(.ref a)])) := fun tq kq => G0 tq (by
      refine XS.aloadN X0.here hx rfl (hb hby d5_0) rfl rfl ?_
      exact kq)
    obtain ⟨cq417, kq417, q417a, q417b, q417c⟩ := isOf hZ e0 E
    obtain ⟨_, _, ⟨T417, L417, k417, n417⟩, -, X417, ⟨Lc417, hQ417, l417, y417, z417⟩, st417⟩ := X0.virtualBack hx (y := (⟨"java/lang/String", "isEmpty", "()Z"⟩ : MethodName)) (z := (⟨"java/lang/String", "isEmpty", "()Z"⟩ : MethodName)) hown (mvT hZ (wd hw 32 rfl)) (mvT hZ (wd hw 33 rfl)) (notFace_of_selects (args := #[]) (mvT hZ (wd hw 35 rfl))) (mvT hZ (wd hw 35 rfl)) (mvT hZ (wd hw 34 rfl)) (by decide) (backOf (W := 0) (rmIEU l Z a0 hw [] a b kb (own_cf u0 u1 u2) (3 : Int32) (6 : Int32) cs fo h0 n0 Z0 E Fv Fc Ab (by decide) hCS hcs hSF hfo hAD hHI hLO hold) hZ (wd hw 36 rfl) (wd hw 8 rfl) (by decide) (by decide)) q417a q417c (g := (mkF m 1 #[.val (.ref a), .unset, .unset] [(.ref a)])) rfl (by rw [hml]; rfl) (Steps.refl _) (argsL := []) (rest := []) (lenOf pd_6 rfl) rfl (by show 2 * 0 + _ ≤ _; exact Nat.le_of_eq rfl) (hb hby d5_1) (fun _ _ => ⟨rfl, e0, (by decide : 0 + 0 ≤ _), (by decide : 0 + 0 ≤ _)⟩)
    dsimp only [Pt.U, Pt.locs, Pt.cells, Pt.slots] at X417 l417 y417 z417 st417 hQ417
    obtain rfl : k417 = 0 := y417
    obtain rfl : n417 = 0 := z417
    obtain ⟨rfl, N417q, e417⟩ := hQ417
    have N417 : Fr n0 L417 := by rw [l417]; exact Fr.app N0 N417q
    have G418 : Go p e below A0 (T417.setTop (mkF m 4 #[.val (.ref a), .unset, .unset] [(.int 0)])) := fun tq kq => G416 tq (st417.trans kq)
    have G419 : Go p e below A0 (T417.setTop (mkF m 8 #[.val (.ref a), .unset, .unset] [(.ref a)])) := fun tq kq => G418 tq (by
      refine XS.ifNo X417.here hx rfl (hb hby d5_4) rfl (by decide) ?_
      refine XS.aloadN X417.here hx rfl (hb hby d5_7) rfl rfl ?_
      exact kq)
    obtain ⟨cq420, kq420, q420a, q420b, q420c⟩ := isOf hZ e417 E
    obtain ⟨_, _, ⟨T420, L420, k420, n420⟩, -, X420, ⟨Lc420, hQ420, l420, y420, z420⟩, st420⟩ := X417.virtualBack hx (y := (⟨"java/lang/String", "length", "()I"⟩ : MethodName)) (z := (⟨"java/lang/String", "length", "()I"⟩ : MethodName)) hown (mvT hZ (wd hw 51 rfl)) (mvT hZ (wd hw 52 rfl)) (notFace_of_selects (args := #[]) (mvT hZ (wd hw 54 rfl))) (mvT hZ (wd hw 54 rfl)) (mvT hZ (wd hw 53 rfl)) (by decide) (backOf (W := 0) (rmLeU l Z a0 hw [] a b kb (own_cf u0 u1 u2) (3 : Int32) (6 : Int32) cs fo h0 n0 Z0 E Fv Fc Ab ⟨by decide, by decide, by decide⟩ hCS hcs hSF hfo hAD hHI hLO hold) hZ (wd hw 55 rfl) (wd hw 8 rfl) (by decide) (by decide)) q420a q420c (g := (mkF m 8 #[.val (.ref a), .unset, .unset] [(.ref a)])) rfl (by rw [hml]; rfl) (Steps.refl _) (argsL := []) (rest := []) (lenOf pd_8 rfl) rfl (by show 2 * 0 + _ ≤ _; exact Nat.le_of_eq rfl) (hb hby d5_8) (fun _ _ => ⟨rfl, e417, (by decide : 0 + 0 ≤ _), (by decide : 0 + 0 ≤ _)⟩)
    dsimp only [Pt.U, Pt.locs, Pt.cells, Pt.slots] at X420 l420 y420 z420 st420 hQ420
    obtain rfl : k420 = 0 := y420
    obtain rfl : n420 = 0 := z420
    obtain ⟨rfl, N420q, e420⟩ := hQ420
    have N420 : Fr n0 L420 := by rw [l420]; exact Fr.app N417 N420q
    have G421 : Go p e below A0 (T420.setTop (mkF m 11 #[.val (.ref a), .unset, .unset] [(.int 3)])) := fun tq kq => G419 tq (st420.trans kq)
    have G422 : Go p e below A0 (T420.setTop (mkF m 19 #[.val (.ref a), .unset, .unset] [(.int 0), (.ref a)])) := fun tq kq => G421 tq (by
      refine XS.sipush X420.here hx rfl (hb hby d5_11) ?_
      refine XS.icmpNo X420.here hx rfl (hb hby d5_14) rfl (by decide) ?_
      refine XS.aloadN X420.here hx rfl (hb hby d5_17) rfl rfl ?_
      refine XS.iconst X420.here hx rfl (hb hby d5_18) ?_
      exact kq)
    obtain ⟨cq423, kq423, q423a, q423b, q423c⟩ := isOf hZ e420 E
    obtain ⟨_, _, ⟨T423, L423, k423, n423⟩, -, X423, ⟨Lc423, hQ423, l423, y423, z423⟩, st423⟩ := X420.virtualBack hx (y := (⟨"java/lang/String", "charAt", "(I)C"⟩ : MethodName)) (z := (⟨"java/lang/String", "charAt", "(I)C"⟩ : MethodName)) hown (mvT hZ (wd hw 61 rfl)) (mvT hZ (wd hw 62 rfl)) (notFace_of_selects (args := #[]) (mvT hZ (wd hw 64 rfl))) (mvT hZ (wd hw 64 rfl)) (mvT hZ (wd hw 63 rfl)) (by decide) (backOf (W := 0) (rmCAU l Z a0 hw [] a b kb (own_cf u0 u1 u2) (0 : Int32) (3 : Int32) (6 : Int32) cs fo h0 n0 Z0 E Fv Fc Ab ⟨by decide, by decide, by decide⟩ ⟨by decide, by decide⟩ ru0  hCS hcs hSF hfo hAD hHI hLO hold) hZ (wd hw 65 rfl) (wd hw 8 rfl) (by decide) (by decide)) q423a q423c (g := (mkF m 19 #[.val (.ref a), .unset, .unset] [(.int 0), (.ref a)])) rfl (by rw [hml]; rfl) (Steps.refl _) (argsL := [(.int 0)]) (rest := []) (lenOf pd_9 rfl) rfl (by show 2 * 0 + _ ≤ _; exact Nat.le_of_eq rfl) (hb hby d5_19) (fun _ _ => ⟨rfl, e420, (by decide : 0 + 0 ≤ _), (by decide : 0 + 0 ≤ _)⟩)
    dsimp only [Pt.U, Pt.locs, Pt.cells, Pt.slots] at X423 l423 y423 z423 st423 hQ423
    obtain rfl : k423 = 0 := y423
    obtain rfl : n423 = 0 := z423
    obtain ⟨rfl, N423q, e423⟩ := hQ423
    have N423 : Fr n0 L423 := by rw [l423]; exact Fr.app N420 N423q
    have G424 : Go p e below A0 (T423.setTop (mkF m 22 #[.val (.ref a), .unset, .unset] [(.int u0)])) := fun tq kq => G422 tq (st423.trans kq)
    obtain ⟨_, _, ⟨T425, L425, k425, n425⟩, -, X425, ⟨Lc425, hQ425, l425, y425, z425⟩, st425⟩ := Jvm.LawKit.callS X423 hx (y := (⟨"com/example/role_delegation/roledelegation/Names", "isLetterOrDigit", "(C)Z"⟩ : MethodName)) hown (mvT hZ (wd hw 83 rfl)) (mvT hZ (wd hw 84 rfl)) (mvT hZ (wd hw 30 rfl)) (mvT hZ (wd hw 85 rfl)) (by decide) (backOf (W := 0) (rmLD l Z a0 hw [] u0 h0 n0 Z0 ) hZ (wd hw 85 rfl) (wd hw 30 rfl) (by decide) (by decide)) (g := (mkF m 22 #[.val (.ref a), .unset, .unset] [(.int u0)])) rfl (by rw [hml]; rfl) (argsL := [(.int u0)]) (rest := []) (lenOf pd_7 rfl) rfl (by show 2 * 0 + _ ≤ _; exact Nat.le_of_eq rfl) (hb hby d5_22) (fun _ _ => ⟨rfl, e423, (by decide : 0 + 0 ≤ _), (by decide : 0 + 0 ≤ _)⟩)
    dsimp only [Pt.U, Pt.locs, Pt.cells, Pt.slots] at X425 l425 y425 z425 st425 hQ425
    obtain rfl : k425 = 0 := y425
    obtain rfl : n425 = 0 := z425
    obtain ⟨rfl, N425q, e425⟩ := hQ425
    have N425 : Fr n0 L425 := by rw [l425]; exact Fr.app N423 N425q
    have G426 : Go p e below A0 (T425.setTop (mkF m 25 #[.val (.ref a), .unset, .unset] [(.int (own_b (own_ld u0)))])) := fun tq kq => G424 tq (st425 _ kq)
    by_cases hc427 : (own_ld u0)
    · have G428 : Go p e below A0 (T425.setTop (mkF m 34 #[.val (.ref a), .val (.int 1), .unset] [(.ref a), (.int 1)])) := fun tq kq => G426 tq (by
        refine XS.ifYes X425.here hx rfl (pc0 := 25) (pc' := 30) rfl (hb hby d5_25) rfl ((if0 _ _).trans (feq (own_b1 hc427)).2) (by decide) (by decide) ?_
        refine XS.iconst X425.here hx rfl (hb hby d5_30) ?_
        refine XS.istoreN X425.here hx rfl (hb hby d5_31) rfl (l' := #[.val (.ref a), .val (.int 1), .unset]) rfl ?_
        refine XS.iloadN X425.here hx rfl (hb hby d5_32) rfl ?_
        refine XS.aloadN X425.here hx rfl (hb hby d5_33) rfl rfl ?_
        exact kq)
      obtain ⟨cq429, kq429, q429a, q429b, q429c⟩ := isOf hZ e425 E
      obtain ⟨_, _, ⟨T429, L429, k429, n429⟩, -, X429, ⟨Lc429, hQ429, l429, y429, z429⟩, st429⟩ := X425.virtualBack hx (y := (⟨"java/lang/String", "length", "()I"⟩ : MethodName)) (z := (⟨"java/lang/String", "length", "()I"⟩ : MethodName)) hown (mvT hZ (wd hw 51 rfl)) (mvT hZ (wd hw 52 rfl)) (notFace_of_selects (args := #[]) (mvT hZ (wd hw 54 rfl))) (mvT hZ (wd hw 54 rfl)) (mvT hZ (wd hw 53 rfl)) (by decide) (backOf (W := 1) (rmLeU l Z a0 hw [] a b kb (own_cf u0 u1 u2) (3 : Int32) (6 : Int32) cs fo h0 n0 Z0 E Fv Fc Ab ⟨by decide, by decide, by decide⟩ hCS hcs hSF hfo hAD hHI hLO hold) hZ (wd hw 55 rfl) (wd hw 8 rfl) (by decide) (by decide)) q429a q429c (g := (mkF m 34 #[.val (.ref a), .val (.int 1), .unset] [(.ref a), (.int 1)])) rfl (by rw [hml]; rfl) (Steps.refl _) (argsL := []) (rest := [(.int 1)]) (lenOf pd_8 rfl) rfl (by show 2 * 0 + _ ≤ _; exact Nat.le_of_eq rfl) (hb hby d5_34) (fun _ _ => ⟨rfl, e425, (by decide : 0 + 0 ≤ _), (by decide : 0 + 0 ≤ _)⟩)
      dsimp only [Pt.U, Pt.locs, Pt.cells, Pt.slots] at X429 l429 y429 z429 st429 hQ429
      obtain rfl : k429 = 0 := y429
      obtain rfl : n429 = 0 := z429
      obtain ⟨rfl, N429q, e429⟩ := hQ429
      have N429 : Fr n0 L429 := by rw [l429]; exact Fr.app N425 N429q
      have G430 : Go p e below A0 (T429.setTop (mkF m 37 #[.val (.ref a), .val (.int 1), .unset] [(.int 3), (.int 1)])) := fun tq kq => G428 tq (st429.trans kq)
      have G431 : Go p e below A0 (T429.setTop (mkF m 42 #[.val (.ref a), .val (.int 1), .unset] [(.int 1), (.ref a)])) := fun tq kq => G430 tq (by
        refine XS.icmpNo X429.here hx rfl (hb hby d5_37) rfl (by decide) ?_
        refine XS.aloadN X429.here hx rfl (hb hby d5_40) rfl rfl ?_
        refine XS.iloadN X429.here hx rfl (hb hby d5_41) rfl ?_
        exact kq)
      obtain ⟨cq432, kq432, q432a, q432b, q432c⟩ := isOf hZ e429 E
      obtain ⟨_, _, ⟨T432, L432, k432, n432⟩, -, X432, ⟨Lc432, hQ432, l432, y432, z432⟩, st432⟩ := X429.virtualBack hx (y := (⟨"java/lang/String", "charAt", "(I)C"⟩ : MethodName)) (z := (⟨"java/lang/String", "charAt", "(I)C"⟩ : MethodName)) hown (mvT hZ (wd hw 61 rfl)) (mvT hZ (wd hw 62 rfl)) (notFace_of_selects (args := #[]) (mvT hZ (wd hw 64 rfl))) (mvT hZ (wd hw 64 rfl)) (mvT hZ (wd hw 63 rfl)) (by decide) (backOf (W := 0) (rmCAU l Z a0 hw [] a b kb (own_cf u0 u1 u2) (1 : Int32) (3 : Int32) (6 : Int32) cs fo h0 n0 Z0 E Fv Fc Ab ⟨by decide, by decide, by decide⟩ ⟨by decide, by decide⟩ ru1  hCS hcs hSF hfo hAD hHI hLO hold) hZ (wd hw 65 rfl) (wd hw 8 rfl) (by decide) (by decide)) q432a q432c (g := (mkF m 42 #[.val (.ref a), .val (.int 1), .unset] [(.int 1), (.ref a)])) rfl (by rw [hml]; rfl) (Steps.refl _) (argsL := [(.int 1)]) (rest := []) (lenOf pd_9 rfl) rfl (by show 2 * 0 + _ ≤ _; exact Nat.le_of_eq rfl) (hb hby d5_42) (fun _ _ => ⟨rfl, e429, (by decide : 0 + 0 ≤ _), (by decide : 0 + 0 ≤ _)⟩)
      dsimp only [Pt.U, Pt.locs, Pt.cells, Pt.slots] at X432 l432 y432 z432 st432 hQ432
      obtain rfl : k432 = 0 := y432
      obtain rfl : n432 = 0 := z432
      obtain ⟨rfl, N432q, e432⟩ := hQ432
      have N432 : Fr n0 L432 := by rw [l432]; exact Fr.app N429 N432q
      have G433 : Go p e below A0 (T432.setTop (mkF m 45 #[.val (.ref a), .val (.int 1), .unset] [(.int u1)])) := fun tq kq => G431 tq (st432.trans kq)
      have G435 : Go p e below A0 (T432.setTop (mkF m 46 #[.val (.ref a), .val (.int 1), .val (.int u1)] [])) := fun tq kq => G433 tq (by
        refine XS.istoreN X432.here hx rfl (hb hby d5_45) rfl (l' := #[.val (.ref a), .val (.int 1), .val (.int u1)]) rfl ?_
        exact kq)
      by_cases ht434 : own_tl u1
      · obtain ⟨T436, Lc436, X436, e436, N436, hG436, G436⟩ : ∃ (T436 : State) (Lc436 : List Loc) , Stand p l e (Rm 5 0 0 66) s m #[(.ref a)] below meth c T436 Lc436 0 0 ∧ T436.heap = h0 ∧ Fr n0 Lc436 ∧ (True) ∧ Go p e below A0 (T436.setTop (mkF m 79 #[.val (.ref a), .val (.int 1), .val (.int u1)] [])) := by
          have G437 : Go p e below A0 (T432.setTop (mkF m 47 #[.val (.ref a), .val (.int 1), .val (.int u1)] [(.int u1)])) := fun tq kq => G435 tq (by
            refine XS.iloadN X432.here hx rfl (hb hby d5_46) rfl ?_
            exact kq)
          obtain ⟨_, _, ⟨T438, L438, k438, n438⟩, -, X438, ⟨Lc438, hQ438, l438, y438, z438⟩, st438⟩ := Jvm.LawKit.callS X432 hx (y := (⟨"com/example/role_delegation/roledelegation/Names", "isLetterOrDigit", "(C)Z"⟩ : MethodName)) hown (mvT hZ (wd hw 83 rfl)) (mvT hZ (wd hw 84 rfl)) (mvT hZ (wd hw 30 rfl)) (mvT hZ (wd hw 85 rfl)) (by decide) (backOf (W := 0) (rmLD l Z a0 hw [] u1 h0 n0 Z0 ) hZ (wd hw 85 rfl) (wd hw 30 rfl) (by decide) (by decide)) (g := (mkF m 47 #[.val (.ref a), .val (.int 1), .val (.int u1)] [(.int u1)])) rfl (by rw [hml]; rfl) (argsL := [(.int u1)]) (rest := []) (lenOf pd_7 rfl) rfl (by show 2 * 0 + _ ≤ _; exact Nat.le_of_eq rfl) (hb hby d5_47) (fun _ _ => ⟨rfl, e432, (by decide : 0 + 0 ≤ _), (by decide : 0 + 0 ≤ _)⟩)
          dsimp only [Pt.U, Pt.locs, Pt.cells, Pt.slots] at X438 l438 y438 z438 st438 hQ438
          obtain rfl : k438 = 0 := y438
          obtain rfl : n438 = 0 := z438
          obtain ⟨rfl, N438q, e438⟩ := hQ438
          have N438 : Fr n0 L438 := by rw [l438]; exact Fr.app N432 N438q
          have G439 : Go p e below A0 (T438.setTop (mkF m 50 #[.val (.ref a), .val (.int 1), .val (.int u1)] [(.int (own_b (own_ld u1)))])) := fun tq kq => G437 tq (st438 _ kq)
          by_cases hc440 : (own_ld u1)
          · have G441 : Go p e below A0 (T438.setTop (mkF m 79 #[.val (.ref a), .val (.int 1), .val (.int u1)] [])) := fun tq kq => G439 tq (by
              refine XS.ifYes X438.here hx rfl (pc0 := 50) (pc' := 79) rfl (hb hby d5_50) rfl ((if0 _ _).trans (feq (own_b1 hc440)).2) (by decide) (by decide) ?_
              exact kq)
            exact ⟨T438, _, X438, e438, N438, (by trivial), G441⟩
          · have G442 : Go p e below A0 (T438.setTop (mkF m 56 #[.val (.ref a), .val (.int 1), .val (.int u1)] [(.int 95), (.int u1)])) := fun tq kq => G439 tq (by
              refine XS.ifNo X438.here hx rfl (hb hby d5_50) rfl ((if0 _ _).trans (teq (own_b0 hc440)).2) ?_
              refine XS.iloadN X438.here hx rfl (hb hby d5_53) rfl ?_
              refine XS.bipush X438.here hx rfl (hb hby d5_54) ?_
              exact kq)
            by_cases hc443 : u1 = (95 : Int32)
            · have G444 : Go p e below A0 (T438.setTop (mkF m 79 #[.val (.ref a), .val (.int 1), .val (.int u1)] [])) := fun tq kq => G442 tq (by
                refine XS.icmpYes X438.here hx rfl (pc0 := 56) (pc' := 79) rfl (hb hby d5_56) rfl (teq hc443).1 (by decide) (by decide) ?_
                exact kq)
              exact ⟨T438, _, X438, e438, N438, (by trivial), G444⟩
            · have G445 : Go p e below A0 (T438.setTop (mkF m 62 #[.val (.ref a), .val (.int 1), .val (.int u1)] [(.int 46), (.int u1)])) := fun tq kq => G442 tq (by
                refine XS.icmpNo X438.here hx rfl (hb hby d5_56) rfl (feq hc443).1 ?_
                refine XS.iloadN X438.here hx rfl (hb hby d5_59) rfl ?_
                refine XS.bipush X438.here hx rfl (hb hby d5_60) ?_
                exact kq)
              by_cases hc446 : u1 = (46 : Int32)
              · have G447 : Go p e below A0 (T438.setTop (mkF m 79 #[.val (.ref a), .val (.int 1), .val (.int u1)] [])) := fun tq kq => G445 tq (by
                  refine XS.icmpYes X438.here hx rfl (pc0 := 62) (pc' := 79) rfl (hb hby d5_62) rfl (teq hc446).1 (by decide) (by decide) ?_
                  exact kq)
                exact ⟨T438, _, X438, e438, N438, (by trivial), G447⟩
              · have G448 : Go p e below A0 (T438.setTop (mkF m 68 #[.val (.ref a), .val (.int 1), .val (.int u1)] [(.int 58), (.int u1)])) := fun tq kq => G445 tq (by
                  refine XS.icmpNo X438.here hx rfl (hb hby d5_62) rfl (feq hc446).1 ?_
                  refine XS.iloadN X438.here hx rfl (hb hby d5_65) rfl ?_
                  refine XS.bipush X438.here hx rfl (hb hby d5_66) ?_
                  exact kq)
                by_cases hc449 : u1 = (58 : Int32)
                · have G450 : Go p e below A0 (T438.setTop (mkF m 79 #[.val (.ref a), .val (.int 1), .val (.int u1)] [])) := fun tq kq => G448 tq (by
                    refine XS.icmpYes X438.here hx rfl (pc0 := 68) (pc' := 79) rfl (hb hby d5_68) rfl (teq hc449).1 (by decide) (by decide) ?_
                    exact kq)
                  exact ⟨T438, _, X438, e438, N438, (by trivial), G450⟩
                · have G451 : Go p e below A0 (T438.setTop (mkF m 74 #[.val (.ref a), .val (.int 1), .val (.int u1)] [(.int 45), (.int u1)])) := fun tq kq => G448 tq (by
                    refine XS.icmpNo X438.here hx rfl (hb hby d5_68) rfl (feq hc449).1 ?_
                    refine XS.iloadN X438.here hx rfl (hb hby d5_71) rfl ?_
                    refine XS.bipush X438.here hx rfl (hb hby d5_72) ?_
                    exact kq)
                  by_cases hc452 : u1 = (45 : Int32)
                  · have G453 : Go p e below A0 (T438.setTop (mkF m 79 #[.val (.ref a), .val (.int 1), .val (.int u1)] [])) := fun tq kq => G451 tq (by
                      refine XS.icmpYes X438.here hx rfl (pc0 := 74) (pc' := 79) rfl (hb hby d5_74) rfl (teq hc452).1 (by decide) (by decide) ?_
                      exact kq)
                    exact ⟨T438, _, X438, e438, N438, (by trivial), G453⟩
                  · have G454 : Go p e below A0 (T438.setTop (mkF m 77 #[.val (.ref a), .val (.int 1), .val (.int u1)] [])) := fun tq kq => G451 tq (by
                      refine XS.icmpNo X438.here hx rfl (hb hby d5_74) rfl (feq hc452).1 ?_
                      exact kq)
                    exact absurd ht434 (by simp only [own_tl, hc440, hc443, hc446, hc449, hc452, or_self, not_false_eq_true])
        have G455 : Go p e below A0 (T436.setTop (mkF m 34 #[.val (.ref a), .val (.int 2), .val (.int u1)] [(.ref a), (.int 2)])) := fun tq kq => G436 tq (by
          refine XS.iinc X436.here hx rfl (hb hby d5_79) rfl (l' := #[.val (.ref a), .val (.int ((1 : Int32) + (1 : Int32))), .val (.int u1)]) rfl ?_
          show Steps p.tables e below (T436.setTop (mkF m 82 #[.val (.ref a), .val (.int ((1 : Int32) + (1 : Int32))), .val (.int u1)] [])) _
          rw [show ((1 : Int32) + (1 : Int32)) = (2 : Int32) from (by decide : ((1 : Int32) + (1 : Int32)) = (2 : Int32))]
          show Steps p.tables e below (T436.setTop (mkF m 82 #[.val (.ref a), .val (.int 2), .val (.int u1)] [])) _
          refine XS.goto X436.here hx rfl (pc0 := 82) (pc' := 32) rfl (hb hby d5_82) (by decide) (by decide) ?_
          refine XS.iloadN X436.here hx rfl (hb hby d5_32) rfl ?_
          refine XS.aloadN X436.here hx rfl (hb hby d5_33) rfl rfl ?_
          exact kq)
        obtain ⟨cq456, kq456, q456a, q456b, q456c⟩ := isOf hZ e436 E
        obtain ⟨_, _, ⟨T456, L456, k456, n456⟩, -, X456, ⟨Lc456, hQ456, l456, y456, z456⟩, st456⟩ := X436.virtualBack hx (y := (⟨"java/lang/String", "length", "()I"⟩ : MethodName)) (z := (⟨"java/lang/String", "length", "()I"⟩ : MethodName)) hown (mvT hZ (wd hw 51 rfl)) (mvT hZ (wd hw 52 rfl)) (notFace_of_selects (args := #[]) (mvT hZ (wd hw 54 rfl))) (mvT hZ (wd hw 54 rfl)) (mvT hZ (wd hw 53 rfl)) (by decide) (backOf (W := 1) (rmLeU l Z a0 hw [] a b kb (own_cf u0 u1 u2) (3 : Int32) (6 : Int32) cs fo h0 n0 Z0 E Fv Fc Ab ⟨by decide, by decide, by decide⟩ hCS hcs hSF hfo hAD hHI hLO hold) hZ (wd hw 55 rfl) (wd hw 8 rfl) (by decide) (by decide)) q456a q456c (g := (mkF m 34 #[.val (.ref a), .val (.int 2), .val (.int u1)] [(.ref a), (.int 2)])) rfl (by rw [hml]; rfl) (Steps.refl _) (argsL := []) (rest := [(.int 2)]) (lenOf pd_8 rfl) rfl (by show 2 * 0 + _ ≤ _; exact Nat.le_of_eq rfl) (hb hby d5_34) (fun _ _ => ⟨rfl, e436, (by decide : 0 + 0 ≤ _), (by decide : 0 + 0 ≤ _)⟩)
        dsimp only [Pt.U, Pt.locs, Pt.cells, Pt.slots] at X456 l456 y456 z456 st456 hQ456
        obtain rfl : k456 = 0 := y456
        obtain rfl : n456 = 0 := z456
        obtain ⟨rfl, N456q, e456⟩ := hQ456
        have N456 : Fr n0 L456 := by rw [l456]; exact Fr.app N436 N456q
        have G457 : Go p e below A0 (T456.setTop (mkF m 37 #[.val (.ref a), .val (.int 2), .val (.int u1)] [(.int 3), (.int 2)])) := fun tq kq => G455 tq (st456.trans kq)
        have G458 : Go p e below A0 (T456.setTop (mkF m 42 #[.val (.ref a), .val (.int 2), .val (.int u1)] [(.int 2), (.ref a)])) := fun tq kq => G457 tq (by
          refine XS.icmpNo X456.here hx rfl (hb hby d5_37) rfl (by decide) ?_
          refine XS.aloadN X456.here hx rfl (hb hby d5_40) rfl rfl ?_
          refine XS.iloadN X456.here hx rfl (hb hby d5_41) rfl ?_
          exact kq)
        obtain ⟨cq459, kq459, q459a, q459b, q459c⟩ := isOf hZ e456 E
        obtain ⟨_, _, ⟨T459, L459, k459, n459⟩, -, X459, ⟨Lc459, hQ459, l459, y459, z459⟩, st459⟩ := X456.virtualBack hx (y := (⟨"java/lang/String", "charAt", "(I)C"⟩ : MethodName)) (z := (⟨"java/lang/String", "charAt", "(I)C"⟩ : MethodName)) hown (mvT hZ (wd hw 61 rfl)) (mvT hZ (wd hw 62 rfl)) (notFace_of_selects (args := #[]) (mvT hZ (wd hw 64 rfl))) (mvT hZ (wd hw 64 rfl)) (mvT hZ (wd hw 63 rfl)) (by decide) (backOf (W := 0) (rmCAU l Z a0 hw [] a b kb (own_cf u0 u1 u2) (2 : Int32) (3 : Int32) (6 : Int32) cs fo h0 n0 Z0 E Fv Fc Ab ⟨by decide, by decide, by decide⟩ ⟨by decide, by decide⟩ ru2  hCS hcs hSF hfo hAD hHI hLO hold) hZ (wd hw 65 rfl) (wd hw 8 rfl) (by decide) (by decide)) q459a q459c (g := (mkF m 42 #[.val (.ref a), .val (.int 2), .val (.int u1)] [(.int 2), (.ref a)])) rfl (by rw [hml]; rfl) (Steps.refl _) (argsL := [(.int 2)]) (rest := []) (lenOf pd_9 rfl) rfl (by show 2 * 0 + _ ≤ _; exact Nat.le_of_eq rfl) (hb hby d5_42) (fun _ _ => ⟨rfl, e456, (by decide : 0 + 0 ≤ _), (by decide : 0 + 0 ≤ _)⟩)
        dsimp only [Pt.U, Pt.locs, Pt.cells, Pt.slots] at X459 l459 y459 z459 st459 hQ459
        obtain rfl : k459 = 0 := y459
        obtain rfl : n459 = 0 := z459
        obtain ⟨rfl, N459q, e459⟩ := hQ459
        have N459 : Fr n0 L459 := by rw [l459]; exact Fr.app N456 N459q
        have G460 : Go p e below A0 (T459.setTop (mkF m 45 #[.val (.ref a), .val (.int 2), .val (.int u1)] [(.int u2)])) := fun tq kq => G458 tq (st459.trans kq)
        have G462 : Go p e below A0 (T459.setTop (mkF m 46 #[.val (.ref a), .val (.int 2), .val (.int u2)] [])) := fun tq kq => G460 tq (by
          refine XS.istoreN X459.here hx rfl (hb hby d5_45) rfl (l' := #[.val (.ref a), .val (.int 2), .val (.int u2)]) rfl ?_
          exact kq)
        by_cases ht461 : own_tl u2
        · obtain ⟨T463, Lc463, X463, e463, N463, hG463, G463⟩ : ∃ (T463 : State) (Lc463 : List Loc) , Stand p l e (Rm 5 0 0 66) s m #[(.ref a)] below meth c T463 Lc463 0 0 ∧ T463.heap = h0 ∧ Fr n0 Lc463 ∧ (True) ∧ Go p e below A0 (T463.setTop (mkF m 79 #[.val (.ref a), .val (.int 2), .val (.int u2)] [])) := by
            have G464 : Go p e below A0 (T459.setTop (mkF m 47 #[.val (.ref a), .val (.int 2), .val (.int u2)] [(.int u2)])) := fun tq kq => G462 tq (by
              refine XS.iloadN X459.here hx rfl (hb hby d5_46) rfl ?_
              exact kq)
            obtain ⟨_, _, ⟨T465, L465, k465, n465⟩, -, X465, ⟨Lc465, hQ465, l465, y465, z465⟩, st465⟩ := Jvm.LawKit.callS X459 hx (y := (⟨"com/example/role_delegation/roledelegation/Names", "isLetterOrDigit", "(C)Z"⟩ : MethodName)) hown (mvT hZ (wd hw 83 rfl)) (mvT hZ (wd hw 84 rfl)) (mvT hZ (wd hw 30 rfl)) (mvT hZ (wd hw 85 rfl)) (by decide) (backOf (W := 0) (rmLD l Z a0 hw [] u2 h0 n0 Z0 ) hZ (wd hw 85 rfl) (wd hw 30 rfl) (by decide) (by decide)) (g := (mkF m 47 #[.val (.ref a), .val (.int 2), .val (.int u2)] [(.int u2)])) rfl (by rw [hml]; rfl) (argsL := [(.int u2)]) (rest := []) (lenOf pd_7 rfl) rfl (by show 2 * 0 + _ ≤ _; exact Nat.le_of_eq rfl) (hb hby d5_47) (fun _ _ => ⟨rfl, e459, (by decide : 0 + 0 ≤ _), (by decide : 0 + 0 ≤ _)⟩)
            dsimp only [Pt.U, Pt.locs, Pt.cells, Pt.slots] at X465 l465 y465 z465 st465 hQ465
            obtain rfl : k465 = 0 := y465
            obtain rfl : n465 = 0 := z465
            obtain ⟨rfl, N465q, e465⟩ := hQ465
            have N465 : Fr n0 L465 := by rw [l465]; exact Fr.app N459 N465q
            have G466 : Go p e below A0 (T465.setTop (mkF m 50 #[.val (.ref a), .val (.int 2), .val (.int u2)] [(.int (own_b (own_ld u2)))])) := fun tq kq => G464 tq (st465 _ kq)
            by_cases hc467 : (own_ld u2)
            · have G468 : Go p e below A0 (T465.setTop (mkF m 79 #[.val (.ref a), .val (.int 2), .val (.int u2)] [])) := fun tq kq => G466 tq (by
                refine XS.ifYes X465.here hx rfl (pc0 := 50) (pc' := 79) rfl (hb hby d5_50) rfl ((if0 _ _).trans (feq (own_b1 hc467)).2) (by decide) (by decide) ?_
                exact kq)
              exact ⟨T465, _, X465, e465, N465, (by trivial), G468⟩
            · have G469 : Go p e below A0 (T465.setTop (mkF m 56 #[.val (.ref a), .val (.int 2), .val (.int u2)] [(.int 95), (.int u2)])) := fun tq kq => G466 tq (by
                refine XS.ifNo X465.here hx rfl (hb hby d5_50) rfl ((if0 _ _).trans (teq (own_b0 hc467)).2) ?_
                refine XS.iloadN X465.here hx rfl (hb hby d5_53) rfl ?_
                refine XS.bipush X465.here hx rfl (hb hby d5_54) ?_
                exact kq)
              by_cases hc470 : u2 = (95 : Int32)
              · have G471 : Go p e below A0 (T465.setTop (mkF m 79 #[.val (.ref a), .val (.int 2), .val (.int u2)] [])) := fun tq kq => G469 tq (by
                  refine XS.icmpYes X465.here hx rfl (pc0 := 56) (pc' := 79) rfl (hb hby d5_56) rfl (teq hc470).1 (by decide) (by decide) ?_
                  exact kq)
                exact ⟨T465, _, X465, e465, N465, (by trivial), G471⟩
              · have G472 : Go p e below A0 (T465.setTop (mkF m 62 #[.val (.ref a), .val (.int 2), .val (.int u2)] [(.int 46), (.int u2)])) := fun tq kq => G469 tq (by
                  refine XS.icmpNo X465.here hx rfl (hb hby d5_56) rfl (feq hc470).1 ?_
                  refine XS.iloadN X465.here hx rfl (hb hby d5_59) rfl ?_
                  refine XS.bipush X465.here hx rfl (hb hby d5_60) ?_
                  exact kq)
                by_cases hc473 : u2 = (46 : Int32)
                · have G474 : Go p e below A0 (T465.setTop (mkF m 79 #[.val (.ref a), .val (.int 2), .val (.int u2)] [])) := fun tq kq => G472 tq (by
                    refine XS.icmpYes X465.here hx rfl (pc0 := 62) (pc' := 79) rfl (hb hby d5_62) rfl (teq hc473).1 (by decide) (by decide) ?_
                    exact kq)
                  exact ⟨T465, _, X465, e465, N465, (by trivial), G474⟩
                · have G475 : Go p e below A0 (T465.setTop (mkF m 68 #[.val (.ref a), .val (.int 2), .val (.int u2)] [(.int 58), (.int u2)])) := fun tq kq => G472 tq (by
                    refine XS.icmpNo X465.here hx rfl (hb hby d5_62) rfl (feq hc473).1 ?_
                    refine XS.iloadN X465.here hx rfl (hb hby d5_65) rfl ?_
                    refine XS.bipush X465.here hx rfl (hb hby d5_66) ?_
                    exact kq)
                  by_cases hc476 : u2 = (58 : Int32)
                  · have G477 : Go p e below A0 (T465.setTop (mkF m 79 #[.val (.ref a), .val (.int 2), .val (.int u2)] [])) := fun tq kq => G475 tq (by
                      refine XS.icmpYes X465.here hx rfl (pc0 := 68) (pc' := 79) rfl (hb hby d5_68) rfl (teq hc476).1 (by decide) (by decide) ?_
                      exact kq)
                    exact ⟨T465, _, X465, e465, N465, (by trivial), G477⟩
                  · have G478 : Go p e below A0 (T465.setTop (mkF m 74 #[.val (.ref a), .val (.int 2), .val (.int u2)] [(.int 45), (.int u2)])) := fun tq kq => G475 tq (by
                      refine XS.icmpNo X465.here hx rfl (hb hby d5_68) rfl (feq hc476).1 ?_
                      refine XS.iloadN X465.here hx rfl (hb hby d5_71) rfl ?_
                      refine XS.bipush X465.here hx rfl (hb hby d5_72) ?_
                      exact kq)
                    by_cases hc479 : u2 = (45 : Int32)
                    · have G480 : Go p e below A0 (T465.setTop (mkF m 79 #[.val (.ref a), .val (.int 2), .val (.int u2)] [])) := fun tq kq => G478 tq (by
                        refine XS.icmpYes X465.here hx rfl (pc0 := 74) (pc' := 79) rfl (hb hby d5_74) rfl (teq hc479).1 (by decide) (by decide) ?_
                        exact kq)
                      exact ⟨T465, _, X465, e465, N465, (by trivial), G480⟩
                    · have G481 : Go p e below A0 (T465.setTop (mkF m 77 #[.val (.ref a), .val (.int 2), .val (.int u2)] [])) := fun tq kq => G478 tq (by
                        refine XS.icmpNo X465.here hx rfl (hb hby d5_74) rfl (feq hc479).1 ?_
                        exact kq)
                      exact absurd ht461 (by simp only [own_tl, hc467, hc470, hc473, hc476, hc479, or_self, not_false_eq_true])
          have G482 : Go p e below A0 (T463.setTop (mkF m 34 #[.val (.ref a), .val (.int 3), .val (.int u2)] [(.ref a), (.int 3)])) := fun tq kq => G463 tq (by
            refine XS.iinc X463.here hx rfl (hb hby d5_79) rfl (l' := #[.val (.ref a), .val (.int ((2 : Int32) + (1 : Int32))), .val (.int u2)]) rfl ?_
            show Steps p.tables e below (T463.setTop (mkF m 82 #[.val (.ref a), .val (.int ((2 : Int32) + (1 : Int32))), .val (.int u2)] [])) _
            rw [show ((2 : Int32) + (1 : Int32)) = (3 : Int32) from (by decide : ((2 : Int32) + (1 : Int32)) = (3 : Int32))]
            show Steps p.tables e below (T463.setTop (mkF m 82 #[.val (.ref a), .val (.int 3), .val (.int u2)] [])) _
            refine XS.goto X463.here hx rfl (pc0 := 82) (pc' := 32) rfl (hb hby d5_82) (by decide) (by decide) ?_
            refine XS.iloadN X463.here hx rfl (hb hby d5_32) rfl ?_
            refine XS.aloadN X463.here hx rfl (hb hby d5_33) rfl rfl ?_
            exact kq)
          obtain ⟨cq483, kq483, q483a, q483b, q483c⟩ := isOf hZ e463 E
          obtain ⟨_, _, ⟨T483, L483, k483, n483⟩, -, X483, ⟨Lc483, hQ483, l483, y483, z483⟩, st483⟩ := X463.virtualBack hx (y := (⟨"java/lang/String", "length", "()I"⟩ : MethodName)) (z := (⟨"java/lang/String", "length", "()I"⟩ : MethodName)) hown (mvT hZ (wd hw 51 rfl)) (mvT hZ (wd hw 52 rfl)) (notFace_of_selects (args := #[]) (mvT hZ (wd hw 54 rfl))) (mvT hZ (wd hw 54 rfl)) (mvT hZ (wd hw 53 rfl)) (by decide) (backOf (W := 1) (rmLeU l Z a0 hw [] a b kb (own_cf u0 u1 u2) (3 : Int32) (6 : Int32) cs fo h0 n0 Z0 E Fv Fc Ab ⟨by decide, by decide, by decide⟩ hCS hcs hSF hfo hAD hHI hLO hold) hZ (wd hw 55 rfl) (wd hw 8 rfl) (by decide) (by decide)) q483a q483c (g := (mkF m 34 #[.val (.ref a), .val (.int 3), .val (.int u2)] [(.ref a), (.int 3)])) rfl (by rw [hml]; rfl) (Steps.refl _) (argsL := []) (rest := [(.int 3)]) (lenOf pd_8 rfl) rfl (by show 2 * 0 + _ ≤ _; exact Nat.le_of_eq rfl) (hb hby d5_34) (fun _ _ => ⟨rfl, e463, (by decide : 0 + 0 ≤ _), (by decide : 0 + 0 ≤ _)⟩)
          dsimp only [Pt.U, Pt.locs, Pt.cells, Pt.slots] at X483 l483 y483 z483 st483 hQ483
          obtain rfl : k483 = 0 := y483
          obtain rfl : n483 = 0 := z483
          obtain ⟨rfl, N483q, e483⟩ := hQ483
          have N483 : Fr n0 L483 := by rw [l483]; exact Fr.app N463 N483q
          have G484 : Go p e below A0 (T483.setTop (mkF m 37 #[.val (.ref a), .val (.int 3), .val (.int u2)] [(.int 3), (.int 3)])) := fun tq kq => G482 tq (st483.trans kq)
          have G485 : Go p e below A0 (T483.setTop (mkF m 86 #[.val (.ref a), .val (.int 3), .val (.int u2)] [(.int 1)])) := fun tq kq => G484 tq (by
            refine XS.icmpYes X483.here hx rfl (pc0 := 37) (pc' := 85) rfl (hb hby d5_37) rfl (by decide) (by decide) (by decide) ?_
            refine XS.iconst X483.here hx rfl (hb hby d5_85) ?_
            exact kq)
          obtain ⟨fs, hr, hrun, hended, hW, hsame⟩ := X483.leave (v := some (.int (nar .boolean (1 : Int32)))) (fun h => by rw [Bd.returns] at h; cases h)
          refine ⟨_, _, (by rw [← hA0]; exact G485 _ (retN X483 hx (t := .boolean) Bd.returns (by simp) (hb hby d5_86) hr)), hrun, hended, _, _, rfl, ?_, ⟨_, rfl⟩, hW, hsame.mono (by decide) (by decide)⟩
          exact ⟨(by rw [show own_b (own_ld u0 ∧ own_tl u1 ∧ own_tl u2) = (1 : Int32) from by simp only [own_b, hc427, ht434, ht461, not_true_eq_false, not_false_eq_true, if_true, if_false, or_true, true_or, or_false, false_or, and_true, true_and, and_false, false_and, and_self, or_self]]; rfl), N483, e483⟩
        · skip
          have G486 : Go p e below A0 (T459.setTop (mkF m 47 #[.val (.ref a), .val (.int 2), .val (.int u2)] [(.int u2)])) := fun tq kq => G462 tq (by
            refine XS.iloadN X459.here hx rfl (hb hby d5_46) rfl ?_
            exact kq)
          obtain ⟨_, _, ⟨T487, L487, k487, n487⟩, -, X487, ⟨Lc487, hQ487, l487, y487, z487⟩, st487⟩ := Jvm.LawKit.callS X459 hx (y := (⟨"com/example/role_delegation/roledelegation/Names", "isLetterOrDigit", "(C)Z"⟩ : MethodName)) hown (mvT hZ (wd hw 83 rfl)) (mvT hZ (wd hw 84 rfl)) (mvT hZ (wd hw 30 rfl)) (mvT hZ (wd hw 85 rfl)) (by decide) (backOf (W := 0) (rmLD l Z a0 hw [] u2 h0 n0 Z0 ) hZ (wd hw 85 rfl) (wd hw 30 rfl) (by decide) (by decide)) (g := (mkF m 47 #[.val (.ref a), .val (.int 2), .val (.int u2)] [(.int u2)])) rfl (by rw [hml]; rfl) (argsL := [(.int u2)]) (rest := []) (lenOf pd_7 rfl) rfl (by show 2 * 0 + _ ≤ _; exact Nat.le_of_eq rfl) (hb hby d5_47) (fun _ _ => ⟨rfl, e459, (by decide : 0 + 0 ≤ _), (by decide : 0 + 0 ≤ _)⟩)
          dsimp only [Pt.U, Pt.locs, Pt.cells, Pt.slots] at X487 l487 y487 z487 st487 hQ487
          obtain rfl : k487 = 0 := y487
          obtain rfl : n487 = 0 := z487
          obtain ⟨rfl, N487q, e487⟩ := hQ487
          have N487 : Fr n0 L487 := by rw [l487]; exact Fr.app N459 N487q
          have G488 : Go p e below A0 (T487.setTop (mkF m 50 #[.val (.ref a), .val (.int 2), .val (.int u2)] [(.int (own_b (own_ld u2)))])) := fun tq kq => G486 tq (st487 _ kq)
          have G489 : Go p e below A0 (T487.setTop (mkF m 78 #[.val (.ref a), .val (.int 2), .val (.int u2)] [(.int 0)])) := fun tq kq => G488 tq (by
            refine XS.ifNo X487.here hx rfl (hb hby d5_50) rfl ((if0 _ _).trans (teq (own_b0 (fun q => ht461 (Or.inl q)))).2) ?_
            refine XS.iloadN X487.here hx rfl (hb hby d5_53) rfl ?_
            refine XS.bipush X487.here hx rfl (hb hby d5_54) ?_
            refine XS.icmpNo X487.here hx rfl (hb hby d5_56) rfl (feq (fun q => ht461 (Or.inr (Or.inl q)))).1 ?_
            refine XS.iloadN X487.here hx rfl (hb hby d5_59) rfl ?_
            refine XS.bipush X487.here hx rfl (hb hby d5_60) ?_
            refine XS.icmpNo X487.here hx rfl (hb hby d5_62) rfl (feq (fun q => ht461 (Or.inr (Or.inr (Or.inl q))))).1 ?_
            refine XS.iloadN X487.here hx rfl (hb hby d5_65) rfl ?_
            refine XS.bipush X487.here hx rfl (hb hby d5_66) ?_
            refine XS.icmpNo X487.here hx rfl (hb hby d5_68) rfl (feq (fun q => ht461 (Or.inr (Or.inr (Or.inr (Or.inl q)))))).1 ?_
            refine XS.iloadN X487.here hx rfl (hb hby d5_71) rfl ?_
            refine XS.bipush X487.here hx rfl (hb hby d5_72) ?_
            refine XS.icmpNo X487.here hx rfl (hb hby d5_74) rfl (feq (fun q => ht461 (Or.inr (Or.inr (Or.inr (Or.inr q)))))).1 ?_
            refine XS.iconst X487.here hx rfl (hb hby d5_77) ?_
            exact kq)
          obtain ⟨fs, hr, hrun, hended, hW, hsame⟩ := X487.leave (v := some (.int (nar .boolean (0 : Int32)))) (fun h => by rw [Bd.returns] at h; cases h)
          refine ⟨_, _, (by rw [← hA0]; exact G489 _ (retN X487 hx (t := .boolean) Bd.returns (by simp) (hb hby d5_78) hr)), hrun, hended, _, _, rfl, ?_, ⟨_, rfl⟩, hW, hsame.mono (by decide) (by decide)⟩
          exact ⟨(by rw [show own_b (own_ld u0 ∧ own_tl u1 ∧ own_tl u2) = (0 : Int32) from by simp only [own_b, hc427, ht434, ht461, not_true_eq_false, not_false_eq_true, if_true, if_false, or_true, true_or, or_false, false_or, and_true, true_and, and_false, false_and, and_self, or_self]]; rfl), N487, e487⟩
      · skip
        have G490 : Go p e below A0 (T432.setTop (mkF m 47 #[.val (.ref a), .val (.int 1), .val (.int u1)] [(.int u1)])) := fun tq kq => G435 tq (by
          refine XS.iloadN X432.here hx rfl (hb hby d5_46) rfl ?_
          exact kq)
        obtain ⟨_, _, ⟨T491, L491, k491, n491⟩, -, X491, ⟨Lc491, hQ491, l491, y491, z491⟩, st491⟩ := Jvm.LawKit.callS X432 hx (y := (⟨"com/example/role_delegation/roledelegation/Names", "isLetterOrDigit", "(C)Z"⟩ : MethodName)) hown (mvT hZ (wd hw 83 rfl)) (mvT hZ (wd hw 84 rfl)) (mvT hZ (wd hw 30 rfl)) (mvT hZ (wd hw 85 rfl)) (by decide) (backOf (W := 0) (rmLD l Z a0 hw [] u1 h0 n0 Z0 ) hZ (wd hw 85 rfl) (wd hw 30 rfl) (by decide) (by decide)) (g := (mkF m 47 #[.val (.ref a), .val (.int 1), .val (.int u1)] [(.int u1)])) rfl (by rw [hml]; rfl) (argsL := [(.int u1)]) (rest := []) (lenOf pd_7 rfl) rfl (by show 2 * 0 + _ ≤ _; exact Nat.le_of_eq rfl) (hb hby d5_47) (fun _ _ => ⟨rfl, e432, (by decide : 0 + 0 ≤ _), (by decide : 0 + 0 ≤ _)⟩)
        dsimp only [Pt.U, Pt.locs, Pt.cells, Pt.slots] at X491 l491 y491 z491 st491 hQ491
        obtain rfl : k491 = 0 := y491
        obtain rfl : n491 = 0 := z491
        obtain ⟨rfl, N491q, e491⟩ := hQ491
        have N491 : Fr n0 L491 := by rw [l491]; exact Fr.app N432 N491q
        have G492 : Go p e below A0 (T491.setTop (mkF m 50 #[.val (.ref a), .val (.int 1), .val (.int u1)] [(.int (own_b (own_ld u1)))])) := fun tq kq => G490 tq (st491 _ kq)
        have G493 : Go p e below A0 (T491.setTop (mkF m 78 #[.val (.ref a), .val (.int 1), .val (.int u1)] [(.int 0)])) := fun tq kq => G492 tq (by
          refine XS.ifNo X491.here hx rfl (hb hby d5_50) rfl ((if0 _ _).trans (teq (own_b0 (fun q => ht434 (Or.inl q)))).2) ?_
          refine XS.iloadN X491.here hx rfl (hb hby d5_53) rfl ?_
          refine XS.bipush X491.here hx rfl (hb hby d5_54) ?_
          refine XS.icmpNo X491.here hx rfl (hb hby d5_56) rfl (feq (fun q => ht434 (Or.inr (Or.inl q)))).1 ?_
          refine XS.iloadN X491.here hx rfl (hb hby d5_59) rfl ?_
          refine XS.bipush X491.here hx rfl (hb hby d5_60) ?_
          refine XS.icmpNo X491.here hx rfl (hb hby d5_62) rfl (feq (fun q => ht434 (Or.inr (Or.inr (Or.inl q))))).1 ?_
          refine XS.iloadN X491.here hx rfl (hb hby d5_65) rfl ?_
          refine XS.bipush X491.here hx rfl (hb hby d5_66) ?_
          refine XS.icmpNo X491.here hx rfl (hb hby d5_68) rfl (feq (fun q => ht434 (Or.inr (Or.inr (Or.inr (Or.inl q)))))).1 ?_
          refine XS.iloadN X491.here hx rfl (hb hby d5_71) rfl ?_
          refine XS.bipush X491.here hx rfl (hb hby d5_72) ?_
          refine XS.icmpNo X491.here hx rfl (hb hby d5_74) rfl (feq (fun q => ht434 (Or.inr (Or.inr (Or.inr (Or.inr q)))))).1 ?_
          refine XS.iconst X491.here hx rfl (hb hby d5_77) ?_
          exact kq)
        obtain ⟨fs, hr, hrun, hended, hW, hsame⟩ := X491.leave (v := some (.int (nar .boolean (0 : Int32)))) (fun h => by rw [Bd.returns] at h; cases h)
        refine ⟨_, _, (by rw [← hA0]; exact G493 _ (retN X491 hx (t := .boolean) Bd.returns (by simp) (hb hby d5_78) hr)), hrun, hended, _, _, rfl, ?_, ⟨_, rfl⟩, hW, hsame.mono (by decide) (by decide)⟩
        exact ⟨(by rw [show own_b (own_ld u0 ∧ own_tl u1 ∧ own_tl u2) = (0 : Int32) from by simp only [own_b, hc427, ht434, not_true_eq_false, not_false_eq_true, if_true, if_false, or_true, true_or, or_false, false_or, and_true, true_and, and_false, false_and, and_self, or_self]]; rfl), N491, e491⟩
    · have G494 : Go p e below A0 (T425.setTop (mkF m 29 #[.val (.ref a), .unset, .unset] [(.int 0)])) := fun tq kq => G426 tq (by
        refine XS.ifNo X425.here hx rfl (hb hby d5_25) rfl ((if0 _ _).trans (teq (own_b0 hc427)).2) ?_
        refine XS.iconst X425.here hx rfl (hb hby d5_28) ?_
        exact kq)
      obtain ⟨fs, hr, hrun, hended, hW, hsame⟩ := X425.leave (v := some (.int (nar .boolean (0 : Int32)))) (fun h => by rw [Bd.returns] at h; cases h)
      refine ⟨_, _, (by rw [← hA0]; exact G494 _ (retN X425 hx (t := .boolean) Bd.returns (by simp) (hb hby d5_29) hr)), hrun, hended, _, _, rfl, ?_, ⟨_, rfl⟩, hW, hsame.mono (by decide) (by decide)⟩
      exact ⟨(by rw [show own_b (own_ld u0 ∧ own_tl u1 ∧ own_tl u2) = (0 : Int32) from by simp only [own_b, hc427, not_true_eq_false, not_false_eq_true, if_true, if_false, or_true, true_or, or_false, false_or, and_true, true_and, and_false, false_and, and_self, or_self]]; rfl), N425, e425⟩
theorem own_fldne {Z : State} {h : Heap} {a b : Addr} {O n d : String} {v w : Value} (F : Fld Z h a O n d v) (G : Fld Z h b O n d w) (hne : v ≠ w) : a ≠ b := by
  rintro rfl
  obtain ⟨c1, cf1, kf1, i1, f1, g1, g2, g3, g4, g5, g6, g7⟩ := F
  obtain ⟨c2, cf2, kf2, i2, f2, v1, v2, v3, v4, v5, v6, v7⟩ := G
  cases g1.symm.trans v1
  cases g2.symm.trans v2
  first | exact hne (Option.some.inj (g7.symm.trans v7)) | (simp_all)
theorem own_arvne {Z : State} {h : Heap} {a b : Addr} {k : ClassId} {z : Int32} {vs : List Value} {d : Value} {a0 : Array Value} (wi : (Cond.instantiable "java/lang/String" 4).before a0 Z = true) (A : Arv Z h b k .byte z vs d) (E : Exa Z h a "java/lang/String") : a ≠ b := by
  rintro rfl
  obtain ⟨c, ⟨g1, ⟨-, k1, hk1, comp, hkind⟩, -⟩, -⟩ := A
  obtain ⟨cell, k2, e1, e2, e3, -⟩ := E
  obtain ⟨cI, kI, hfI, hkI, hkindI, -⟩ := Cond.instantiable_spec wi
  cases g1.symm.trans e1
  cases e2.symm.trans hfI
  cases hk1.symm.trans hkI
  rw [hkindI] at hkind; cases hkind
def Qb (Z : State) (z : Int32) (vs : List Value) (h0 : Heap) (n0 : Nat) (v : Option Value) (h : Heap) (L : List Loc) : Prop := ∃ b kb, v = some (.ref b) ∧ Fr n0 L ∧ Keep h0 h [] ∧ h0.size ≤ b ∧ n0 ≤ b ∧ Arv Z h b kb .byte z vs (.int 0)
def Qpu10 (Z : State) (b : Addr) (kb : ClassId) (e0_ e1_ uc : Int32) (h0 : Heap) (n0 : Nat) (v : Option Value) (h : Heap) (L : List Loc) : Prop := v = none ∧ Fr n0 L ∧ Keep h0 h [b] ∧ Arv Z h b kb .byte (2 : Int32) [(.int (own_lo uc)), (.int (own_hi uc))] (.int 0)
set_option maxRecDepth 65536 in
set_option maxHeartbeats 40000000 in
theorem rmPu10 (l : Launch) (Z : State) (a0 : Array Value) (hw : ∀ d ∈ tables_1, d.before a0 Z = true) (ws : List Jvm.Cond) (b : Addr) (kb : ClassId) (e0_ e1_ uc : Int32) (cs : Int32) (fo : Value) (h0 : Heap) (n0 : Nat) (Z0 : n0 ≤ h0.size) (Ab : Arv Z h0 b kb .byte (2 : Int32) [(.int e0_), (.int e1_)] (.int 0)) (gb : n0 ≤ b) (hCS : Sta Z Z.heap "java/lang/String" "COMPACT_STRINGS" "Z" (.int cs)) (hcs : ¬ cs = (0 : Int32)) (hSF : Sta Z Z.heap "jdk/internal/util/Preconditions" "SIOOBE_FORMATTER" "Ljava/util/function/BiFunction;" fo) (hfo : fo.isRef = true) (hAD : Sta Z Z.heap "java/lang/StringUTF16" "$assertionsDisabled" "Z" (.int 1)) (hHI : Sta Z Z.heap "java/lang/StringUTF16" "HI_BYTE_SHIFT" "I" (.int 0)) (hLO : Sta Z Z.heap "java/lang/StringUTF16" "LO_BYTE_SHIFT" "I" (.int 8)) (hold : Old Z n0 h0) :
    MetFree l (⟨"java/lang/StringUTF16", "putChar", "([BII)V"⟩ : MethodName) (head1 (Jvm.Cond.code (⟨"java/lang/StringUTF16", "putChar", "([BII)V"⟩ : MethodName) jdk_52_method_4_code 3 none :: ws) (Rm 0 0 0 0)) (fun aa UU => aa = #[(.ref b), (.int 0), (.int uc)] ∧ Z.Warmed39 UU.vm ∧ UU.heap = h0) (fun _ _ _ _ _ => True) (fun _ UU oo U' => ∃ v L, oo = .returned v ∧ Qpu10 Z b kb e0_ e1_ uc h0 n0 v U'.heap L ∧ FrameEnd UU oo U' L (Rm 0 0 0 0).cells (Rm 0 0 0 0).slots) := by
  refine MetFree.of_bodySF (plainFor_of_name pn_2) hisR ?_
  intro p e s m args below meth c s₁ Bd hml0 hP hK
  obtain ⟨rfl, hZ, hh⟩ := hP
  have hx := Bd.exec
  have hby := Bd.bytes
  have hml : c.maxLocals = 3 := hml0
  have hown : s.vm.findClass "java/lang/StringUTF16" = some m.cls := findClass_of_methodNamed Bd.named
  have hnm := (name_of_methodNamed Bd.named Bd.method).1
  have X0 : Stand p l e (Rm 0 0 0 0) s m #[(.ref b), (.int 0), (.int uc)] below meth c s₁ [] 0 0 := Stand.of_body Bd
  have e0 : s₁.heap = h0 := by rw [← hh, Bd.state]; rfl
  have N0 := Fr.nil n0
  obtain ⟨A0, hA0⟩ : ∃ A, A = s₁.setTop (entryFrame m #[(.ref b), (.int 0), (.int uc)] 3) := ⟨_, rfl⟩
  have G0 : Go p e below A0 (s₁.setTop (mkF m 0 #[.val (.ref b), .val (.int 0), .val (.int uc)] [])) := fun tq kq => by rw [hA0]; exact castTop (ef_rmPu10 m b (0 : Int32) uc) kq
  obtain ⟨T495, X495, e495, st495⟩ := getS2 X0 hx hZ hown (host := "") (Or.inl (wd hw 115 rfl)) Via.refl e0 (hAD.ext hold.2) (g := (mkF m 0 #[.val (.ref b), .val (.int 0), .val (.int uc)] [])) rfl (hb hby d27_0)
  have G496 : Go p e below A0 (T495.setTop (mkF m 3 #[.val (.ref b), .val (.int 0), .val (.int uc)] [(.int 1)])) := fun tq kq => G0 tq (st495 _ kq)
  have G497 : Go p e below A0 (T495.setTop (mkF m 38 #[.val (.ref b), .val (.int 1), .val (.int uc)] [(.int uc), (.int 0), (.ref b)])) := fun tq kq => G496 tq (by
    refine XS.ifYes X495.here hx rfl (pc0 := 3) (pc' := 28) rfl (hb hby d27_3) rfl (by decide) (by decide) (by decide) ?_
    refine XS.iloadN X495.here hx rfl (hb hby d27_28) rfl ?_
    refine XS.iconst X495.here hx rfl (hb hby d27_29) ?_
    refine XS.ishl X495.here hx rfl (hb hby d27_30) rfl ?_
    show Steps p.tables e below (T495.setTop (mkF m 31 #[.val (.ref b), .val (.int 0), .val (.int uc)] [(.int ((0 : Int32) <<< ((1 : Int32) &&& 31)))])) _
    rw [show ((0 : Int32) <<< ((1 : Int32) &&& 31)) = (0 : Int32) from (by decide)]
    show Steps p.tables e below (T495.setTop (mkF m 31 #[.val (.ref b), .val (.int 0), .val (.int uc)] [(.int 0)])) _
    refine XS.istoreN X495.here hx rfl (hb hby d27_31) rfl (l' := #[.val (.ref b), .val (.int 0), .val (.int uc)]) rfl ?_
    refine XS.aloadN X495.here hx rfl (hb hby d27_32) rfl rfl ?_
    refine XS.iloadN X495.here hx rfl (hb hby d27_33) rfl ?_
    refine XS.iinc X495.here hx rfl (hb hby d27_34) rfl (l' := #[.val (.ref b), .val (.int ((0 : Int32) + (1 : Int32))), .val (.int uc)]) rfl ?_
    show Steps p.tables e below (T495.setTop (mkF m 37 #[.val (.ref b), .val (.int ((0 : Int32) + (1 : Int32))), .val (.int uc)] [(.int 0), (.ref b)])) _
    rw [show ((0 : Int32) + (1 : Int32)) = (1 : Int32) from (by decide : ((0 : Int32) + (1 : Int32)) = (1 : Int32))]
    show Steps p.tables e below (T495.setTop (mkF m 37 #[.val (.ref b), .val (.int 1), .val (.int uc)] [(.int 0), (.ref b)])) _
    refine XS.iloadN X495.here hx rfl (hb hby d27_37) rfl ?_
    exact kq)
  obtain ⟨T498, X498, e498, st498⟩ := getS2 X495 hx hZ hown (host := "") (Or.inl (wd hw 116 rfl)) Via.refl e495 (hHI.ext hold.2) (g := (mkF m 38 #[.val (.ref b), .val (.int 1), .val (.int uc)] [(.int uc), (.int 0), (.ref b)])) rfl (hb hby d27_38)
  have G499 : Go p e below A0 (T498.setTop (mkF m 41 #[.val (.ref b), .val (.int 1), .val (.int uc)] [(.int 0), (.int uc), (.int 0), (.ref b)])) := fun tq kq => G497 tq (st498 _ kq)
  have G500 : Go p e below A0 (T498.setTop (mkF m 43 #[.val (.ref b), .val (.int 1), .val (.int uc)] [(.int (own_lo uc)), (.int 0), (.ref b)])) := fun tq kq => G499 tq (by
    refine XS.ishr X498.here hx rfl (hb hby d27_41) rfl ?_
    refine XS.i2b X498.here hx rfl (hb hby d27_42) rfl ?_
    show Steps p.tables e below (T498.setTop (mkF m 43 #[.val (.ref b), .val (.int 1), .val (.int uc)] [(.int (uc >>> ((0 : Int32) &&& 31)).toInt8.toInt32), (.int 0), (.ref b)])) _
    rw [show (uc >>> ((0 : Int32) &&& 31)).toInt8.toInt32 = (own_lo uc) from rfl]
    show Steps p.tables e below (T498.setTop (mkF m 43 #[.val (.ref b), .val (.int 1), .val (.int uc)] [(.int (own_lo uc)), (.int 0), (.ref b)])) _
    exact kq)
  obtain ⟨cl501, Ar501, q501, S501, M501, H501, Gf501⟩ := id Ab
  have hi502 : ¬ ((0 : Int32) < 0 ∨ cl501.slots.size ≤ ((0 : Int32)).toNatClampNeg) := (inb_of S501 ⟨by decide, by decide⟩)
  obtain ⟨T503, h503, X503, e503, W503, st503⟩ := stB X498 hx hZ e498 Ar501 (j := (0 : Int32)) hi502 (g := (mkF m 43 #[.val (.ref b), .val (.int 1), .val (.int uc)] [(.int (own_lo uc)), (.int 0), (.ref b)])) rfl rfl (hb hby d27_43)
  rw [show nar .byte (own_lo uc) = (own_lo uc) from own_loN _] at W503
  have N503 := Fr.snoc X503 N0 gb
  have V503 := Arv.set Ar501 q501 S501 M501 H501 Gf501 (own_loF _) W503 0 rfl (Nat.le_of_ble_eq_true rfl)
  have V503' : Arv Z h503 b kb .byte (2 : Int32) [(.int (own_lo uc)), (.int e1_)] (.int 0) := by exact V503
  have G504 : Go p e below A0 (T503.setTop (mkF m 44 #[.val (.ref b), .val (.int 1), .val (.int uc)] [])) := fun tq kq => G500 tq (st503 _ kq)
  have G505 : Go p e below A0 (T503.setTop (mkF m 47 #[.val (.ref b), .val (.int 1), .val (.int uc)] [(.int uc), (.int 1), (.ref b)])) := fun tq kq => G504 tq (by
    refine XS.aloadN X503.here hx rfl (hb hby d27_44) rfl rfl ?_
    refine XS.iloadN X503.here hx rfl (hb hby d27_45) rfl ?_
    refine XS.iloadN X503.here hx rfl (hb hby d27_46) rfl ?_
    exact kq)
  obtain ⟨T506, X506, e506, st506⟩ := getS2 X503 hx hZ hown (host := "") (Or.inl (wd hw 117 rfl)) Via.refl e503 (hLO.ext (hold.wr W503 gb).2) (g := (mkF m 47 #[.val (.ref b), .val (.int 1), .val (.int uc)] [(.int uc), (.int 1), (.ref b)])) rfl (hb hby d27_47)
  have G507 : Go p e below A0 (T506.setTop (mkF m 50 #[.val (.ref b), .val (.int 1), .val (.int uc)] [(.int 8), (.int uc), (.int 1), (.ref b)])) := fun tq kq => G505 tq (st506 _ kq)
  have G508 : Go p e below A0 (T506.setTop (mkF m 52 #[.val (.ref b), .val (.int 1), .val (.int uc)] [(.int (own_hi uc)), (.int 1), (.ref b)])) := fun tq kq => G507 tq (by
    refine XS.ishr X506.here hx rfl (hb hby d27_50) rfl ?_
    refine XS.i2b X506.here hx rfl (hb hby d27_51) rfl ?_
    show Steps p.tables e below (T506.setTop (mkF m 52 #[.val (.ref b), .val (.int 1), .val (.int uc)] [(.int (uc >>> ((8 : Int32) &&& 31)).toInt8.toInt32), (.int 1), (.ref b)])) _
    rw [show (uc >>> ((8 : Int32) &&& 31)).toInt8.toInt32 = (own_hi uc) from rfl]
    show Steps p.tables e below (T506.setTop (mkF m 52 #[.val (.ref b), .val (.int 1), .val (.int uc)] [(.int (own_hi uc)), (.int 1), (.ref b)])) _
    exact kq)
  obtain ⟨cl509, Ar509, q509, S509, M509, H509, Gf509⟩ := id V503'
  have hi510 : ¬ ((1 : Int32) < 0 ∨ cl509.slots.size ≤ ((1 : Int32)).toNatClampNeg) := (inb_of S509 ⟨by decide, by decide⟩)
  obtain ⟨T511, h511, X511, e511, W511, st511⟩ := stB X506 hx hZ e506 Ar509 (j := (1 : Int32)) hi510 (g := (mkF m 52 #[.val (.ref b), .val (.int 1), .val (.int uc)] [(.int (own_hi uc)), (.int 1), (.ref b)])) rfl rfl (hb hby d27_52)
  rw [show nar .byte (own_hi uc) = (own_hi uc) from own_hiN _] at W511
  have N511 := Fr.snoc X511 N503 gb
  have V511 := Arv.set Ar509 q509 S509 M509 H509 Gf509 (own_hiF _) W511 1 rfl (Nat.le_of_ble_eq_true rfl)
  have V511' : Arv Z h511 b kb .byte (2 : Int32) [(.int (own_lo uc)), (.int (own_hi uc))] (.int 0) := by exact V511
  have G512 : Go p e below A0 (T511.setTop (mkF m 53 #[.val (.ref b), .val (.int 1), .val (.int uc)] [])) := fun tq kq => G508 tq (st511 _ kq)
  obtain ⟨fs, hr, hrun, hended, hW, hsame⟩ := X511.leave (v := none) (fun _ => rfl)
  refine ⟨_, _, (by rw [← hA0]; exact G512 _ (X511.returnOut hx Bd.returns (hb hby d27_53) hr)), hrun, hended, _, _, rfl, ?_, ⟨_, rfl⟩, hW, hsame.mono (by decide) (by decide)⟩
  show Qpu10 Z b kb e0_ e1_ uc h0 n0 _ T511.heap _
  rw [e511]
  exact ⟨rfl, N511, (((Keep.refl h0 [b]).wr W503 (Or.inl (List.mem_of_getElem? (i := 0) rfl))).wr W511 (Or.inl (List.mem_of_getElem? (i := 0) rfl))), V511'⟩
def Qpu20 (Z : State) (b : Addr) (kb : ClassId) (e0_ e1_ e2_ e3_ uc : Int32) (h0 : Heap) (n0 : Nat) (v : Option Value) (h : Heap) (L : List Loc) : Prop := v = none ∧ Fr n0 L ∧ Keep h0 h [b] ∧ Arv Z h b kb .byte (4 : Int32) [(.int (own_lo uc)), (.int (own_hi uc)), (.int e2_), (.int e3_)] (.int 0)
set_option maxRecDepth 65536 in
set_option maxHeartbeats 40000000 in
theorem rmPu20 (l : Launch) (Z : State) (a0 : Array Value) (hw : ∀ d ∈ tables_1, d.before a0 Z = true) (ws : List Jvm.Cond) (b : Addr) (kb : ClassId) (e0_ e1_ e2_ e3_ uc : Int32) (cs : Int32) (fo : Value) (h0 : Heap) (n0 : Nat) (Z0 : n0 ≤ h0.size) (Ab : Arv Z h0 b kb .byte (4 : Int32) [(.int e0_), (.int e1_), (.int e2_), (.int e3_)] (.int 0)) (gb : n0 ≤ b) (hCS : Sta Z Z.heap "java/lang/String" "COMPACT_STRINGS" "Z" (.int cs)) (hcs : ¬ cs = (0 : Int32)) (hSF : Sta Z Z.heap "jdk/internal/util/Preconditions" "SIOOBE_FORMATTER" "Ljava/util/function/BiFunction;" fo) (hfo : fo.isRef = true) (hAD : Sta Z Z.heap "java/lang/StringUTF16" "$assertionsDisabled" "Z" (.int 1)) (hHI : Sta Z Z.heap "java/lang/StringUTF16" "HI_BYTE_SHIFT" "I" (.int 0)) (hLO : Sta Z Z.heap "java/lang/StringUTF16" "LO_BYTE_SHIFT" "I" (.int 8)) (hold : Old Z n0 h0) :
    MetFree l (⟨"java/lang/StringUTF16", "putChar", "([BII)V"⟩ : MethodName) (head1 (Jvm.Cond.code (⟨"java/lang/StringUTF16", "putChar", "([BII)V"⟩ : MethodName) jdk_52_method_4_code 3 none :: ws) (Rm 0 0 0 0)) (fun aa UU => aa = #[(.ref b), (.int 0), (.int uc)] ∧ Z.Warmed39 UU.vm ∧ UU.heap = h0) (fun _ _ _ _ _ => True) (fun _ UU oo U' => ∃ v L, oo = .returned v ∧ Qpu20 Z b kb e0_ e1_ e2_ e3_ uc h0 n0 v U'.heap L ∧ FrameEnd UU oo U' L (Rm 0 0 0 0).cells (Rm 0 0 0 0).slots) := by
  refine MetFree.of_bodySF (plainFor_of_name pn_2) hisR ?_
  intro p e s m args below meth c s₁ Bd hml0 hP hK
  obtain ⟨rfl, hZ, hh⟩ := hP
  have hx := Bd.exec
  have hby := Bd.bytes
  have hml : c.maxLocals = 3 := hml0
  have hown : s.vm.findClass "java/lang/StringUTF16" = some m.cls := findClass_of_methodNamed Bd.named
  have hnm := (name_of_methodNamed Bd.named Bd.method).1
  have X0 : Stand p l e (Rm 0 0 0 0) s m #[(.ref b), (.int 0), (.int uc)] below meth c s₁ [] 0 0 := Stand.of_body Bd
  have e0 : s₁.heap = h0 := by rw [← hh, Bd.state]; rfl
  have N0 := Fr.nil n0
  obtain ⟨A0, hA0⟩ : ∃ A, A = s₁.setTop (entryFrame m #[(.ref b), (.int 0), (.int uc)] 3) := ⟨_, rfl⟩
  have G0 : Go p e below A0 (s₁.setTop (mkF m 0 #[.val (.ref b), .val (.int 0), .val (.int uc)] [])) := fun tq kq => by rw [hA0]; exact castTop (ef_rmPu20 m b (0 : Int32) uc) kq
  obtain ⟨T513, X513, e513, st513⟩ := getS2 X0 hx hZ hown (host := "") (Or.inl (wd hw 115 rfl)) Via.refl e0 (hAD.ext hold.2) (g := (mkF m 0 #[.val (.ref b), .val (.int 0), .val (.int uc)] [])) rfl (hb hby d27_0)
  have G514 : Go p e below A0 (T513.setTop (mkF m 3 #[.val (.ref b), .val (.int 0), .val (.int uc)] [(.int 1)])) := fun tq kq => G0 tq (st513 _ kq)
  have G515 : Go p e below A0 (T513.setTop (mkF m 38 #[.val (.ref b), .val (.int 1), .val (.int uc)] [(.int uc), (.int 0), (.ref b)])) := fun tq kq => G514 tq (by
    refine XS.ifYes X513.here hx rfl (pc0 := 3) (pc' := 28) rfl (hb hby d27_3) rfl (by decide) (by decide) (by decide) ?_
    refine XS.iloadN X513.here hx rfl (hb hby d27_28) rfl ?_
    refine XS.iconst X513.here hx rfl (hb hby d27_29) ?_
    refine XS.ishl X513.here hx rfl (hb hby d27_30) rfl ?_
    show Steps p.tables e below (T513.setTop (mkF m 31 #[.val (.ref b), .val (.int 0), .val (.int uc)] [(.int ((0 : Int32) <<< ((1 : Int32) &&& 31)))])) _
    rw [show ((0 : Int32) <<< ((1 : Int32) &&& 31)) = (0 : Int32) from (by decide)]
    show Steps p.tables e below (T513.setTop (mkF m 31 #[.val (.ref b), .val (.int 0), .val (.int uc)] [(.int 0)])) _
    refine XS.istoreN X513.here hx rfl (hb hby d27_31) rfl (l' := #[.val (.ref b), .val (.int 0), .val (.int uc)]) rfl ?_
    refine XS.aloadN X513.here hx rfl (hb hby d27_32) rfl rfl ?_
    refine XS.iloadN X513.here hx rfl (hb hby d27_33) rfl ?_
    refine XS.iinc X513.here hx rfl (hb hby d27_34) rfl (l' := #[.val (.ref b), .val (.int ((0 : Int32) + (1 : Int32))), .val (.int uc)]) rfl ?_
    show Steps p.tables e below (T513.setTop (mkF m 37 #[.val (.ref b), .val (.int ((0 : Int32) + (1 : Int32))), .val (.int uc)] [(.int 0), (.ref b)])) _
    rw [show ((0 : Int32) + (1 : Int32)) = (1 : Int32) from (by decide : ((0 : Int32) + (1 : Int32)) = (1 : Int32))]
    show Steps p.tables e below (T513.setTop (mkF m 37 #[.val (.ref b), .val (.int 1), .val (.int uc)] [(.int 0), (.ref b)])) _
    refine XS.iloadN X513.here hx rfl (hb hby d27_37) rfl ?_
    exact kq)
  obtain ⟨T516, X516, e516, st516⟩ := getS2 X513 hx hZ hown (host := "") (Or.inl (wd hw 116 rfl)) Via.refl e513 (hHI.ext hold.2) (g := (mkF m 38 #[.val (.ref b), .val (.int 1), .val (.int uc)] [(.int uc), (.int 0), (.ref b)])) rfl (hb hby d27_38)
  have G517 : Go p e below A0 (T516.setTop (mkF m 41 #[.val (.ref b), .val (.int 1), .val (.int uc)] [(.int 0), (.int uc), (.int 0), (.ref b)])) := fun tq kq => G515 tq (st516 _ kq)
  have G518 : Go p e below A0 (T516.setTop (mkF m 43 #[.val (.ref b), .val (.int 1), .val (.int uc)] [(.int (own_lo uc)), (.int 0), (.ref b)])) := fun tq kq => G517 tq (by
    refine XS.ishr X516.here hx rfl (hb hby d27_41) rfl ?_
    refine XS.i2b X516.here hx rfl (hb hby d27_42) rfl ?_
    show Steps p.tables e below (T516.setTop (mkF m 43 #[.val (.ref b), .val (.int 1), .val (.int uc)] [(.int (uc >>> ((0 : Int32) &&& 31)).toInt8.toInt32), (.int 0), (.ref b)])) _
    rw [show (uc >>> ((0 : Int32) &&& 31)).toInt8.toInt32 = (own_lo uc) from rfl]
    show Steps p.tables e below (T516.setTop (mkF m 43 #[.val (.ref b), .val (.int 1), .val (.int uc)] [(.int (own_lo uc)), (.int 0), (.ref b)])) _
    exact kq)
  obtain ⟨cl519, Ar519, q519, S519, M519, H519, Gf519⟩ := id Ab
  have hi520 : ¬ ((0 : Int32) < 0 ∨ cl519.slots.size ≤ ((0 : Int32)).toNatClampNeg) := (inb_of S519 ⟨by decide, by decide⟩)
  obtain ⟨T521, h521, X521, e521, W521, st521⟩ := stB X516 hx hZ e516 Ar519 (j := (0 : Int32)) hi520 (g := (mkF m 43 #[.val (.ref b), .val (.int 1), .val (.int uc)] [(.int (own_lo uc)), (.int 0), (.ref b)])) rfl rfl (hb hby d27_43)
  rw [show nar .byte (own_lo uc) = (own_lo uc) from own_loN _] at W521
  have N521 := Fr.snoc X521 N0 gb
  have V521 := Arv.set Ar519 q519 S519 M519 H519 Gf519 (own_loF _) W521 0 rfl (Nat.le_of_ble_eq_true rfl)
  have V521' : Arv Z h521 b kb .byte (4 : Int32) [(.int (own_lo uc)), (.int e1_), (.int e2_), (.int e3_)] (.int 0) := by exact V521
  have G522 : Go p e below A0 (T521.setTop (mkF m 44 #[.val (.ref b), .val (.int 1), .val (.int uc)] [])) := fun tq kq => G518 tq (st521 _ kq)
  have G523 : Go p e below A0 (T521.setTop (mkF m 47 #[.val (.ref b), .val (.int 1), .val (.int uc)] [(.int uc), (.int 1), (.ref b)])) := fun tq kq => G522 tq (by
    refine XS.aloadN X521.here hx rfl (hb hby d27_44) rfl rfl ?_
    refine XS.iloadN X521.here hx rfl (hb hby d27_45) rfl ?_
    refine XS.iloadN X521.here hx rfl (hb hby d27_46) rfl ?_
    exact kq)
  obtain ⟨T524, X524, e524, st524⟩ := getS2 X521 hx hZ hown (host := "") (Or.inl (wd hw 117 rfl)) Via.refl e521 (hLO.ext (hold.wr W521 gb).2) (g := (mkF m 47 #[.val (.ref b), .val (.int 1), .val (.int uc)] [(.int uc), (.int 1), (.ref b)])) rfl (hb hby d27_47)
  have G525 : Go p e below A0 (T524.setTop (mkF m 50 #[.val (.ref b), .val (.int 1), .val (.int uc)] [(.int 8), (.int uc), (.int 1), (.ref b)])) := fun tq kq => G523 tq (st524 _ kq)
  have G526 : Go p e below A0 (T524.setTop (mkF m 52 #[.val (.ref b), .val (.int 1), .val (.int uc)] [(.int (own_hi uc)), (.int 1), (.ref b)])) := fun tq kq => G525 tq (by
    refine XS.ishr X524.here hx rfl (hb hby d27_50) rfl ?_
    refine XS.i2b X524.here hx rfl (hb hby d27_51) rfl ?_
    show Steps p.tables e below (T524.setTop (mkF m 52 #[.val (.ref b), .val (.int 1), .val (.int uc)] [(.int (uc >>> ((8 : Int32) &&& 31)).toInt8.toInt32), (.int 1), (.ref b)])) _
    rw [show (uc >>> ((8 : Int32) &&& 31)).toInt8.toInt32 = (own_hi uc) from rfl]
    show Steps p.tables e below (T524.setTop (mkF m 52 #[.val (.ref b), .val (.int 1), .val (.int uc)] [(.int (own_hi uc)), (.int 1), (.ref b)])) _
    exact kq)
  obtain ⟨cl527, Ar527, q527, S527, M527, H527, Gf527⟩ := id V521'
  have hi528 : ¬ ((1 : Int32) < 0 ∨ cl527.slots.size ≤ ((1 : Int32)).toNatClampNeg) := (inb_of S527 ⟨by decide, by decide⟩)
  obtain ⟨T529, h529, X529, e529, W529, st529⟩ := stB X524 hx hZ e524 Ar527 (j := (1 : Int32)) hi528 (g := (mkF m 52 #[.val (.ref b), .val (.int 1), .val (.int uc)] [(.int (own_hi uc)), (.int 1), (.ref b)])) rfl rfl (hb hby d27_52)
  rw [show nar .byte (own_hi uc) = (own_hi uc) from own_hiN _] at W529
  have N529 := Fr.snoc X529 N521 gb
  have V529 := Arv.set Ar527 q527 S527 M527 H527 Gf527 (own_hiF _) W529 1 rfl (Nat.le_of_ble_eq_true rfl)
  have V529' : Arv Z h529 b kb .byte (4 : Int32) [(.int (own_lo uc)), (.int (own_hi uc)), (.int e2_), (.int e3_)] (.int 0) := by exact V529
  have G530 : Go p e below A0 (T529.setTop (mkF m 53 #[.val (.ref b), .val (.int 1), .val (.int uc)] [])) := fun tq kq => G526 tq (st529 _ kq)
  obtain ⟨fs, hr, hrun, hended, hW, hsame⟩ := X529.leave (v := none) (fun _ => rfl)
  refine ⟨_, _, (by rw [← hA0]; exact G530 _ (X529.returnOut hx Bd.returns (hb hby d27_53) hr)), hrun, hended, _, _, rfl, ?_, ⟨_, rfl⟩, hW, hsame.mono (by decide) (by decide)⟩
  show Qpu20 Z b kb e0_ e1_ e2_ e3_ uc h0 n0 _ T529.heap _
  rw [e529]
  exact ⟨rfl, N529, (((Keep.refl h0 [b]).wr W521 (Or.inl (List.mem_of_getElem? (i := 0) rfl))).wr W529 (Or.inl (List.mem_of_getElem? (i := 0) rfl))), V529'⟩
def Qpu21 (Z : State) (b : Addr) (kb : ClassId) (e0_ e1_ e2_ e3_ uc : Int32) (h0 : Heap) (n0 : Nat) (v : Option Value) (h : Heap) (L : List Loc) : Prop := v = none ∧ Fr n0 L ∧ Keep h0 h [b] ∧ Arv Z h b kb .byte (4 : Int32) [(.int e0_), (.int e1_), (.int (own_lo uc)), (.int (own_hi uc))] (.int 0)
set_option maxRecDepth 65536 in
set_option maxHeartbeats 40000000 in
theorem rmPu21 (l : Launch) (Z : State) (a0 : Array Value) (hw : ∀ d ∈ tables_1, d.before a0 Z = true) (ws : List Jvm.Cond) (b : Addr) (kb : ClassId) (e0_ e1_ e2_ e3_ uc : Int32) (cs : Int32) (fo : Value) (h0 : Heap) (n0 : Nat) (Z0 : n0 ≤ h0.size) (Ab : Arv Z h0 b kb .byte (4 : Int32) [(.int e0_), (.int e1_), (.int e2_), (.int e3_)] (.int 0)) (gb : n0 ≤ b) (hCS : Sta Z Z.heap "java/lang/String" "COMPACT_STRINGS" "Z" (.int cs)) (hcs : ¬ cs = (0 : Int32)) (hSF : Sta Z Z.heap "jdk/internal/util/Preconditions" "SIOOBE_FORMATTER" "Ljava/util/function/BiFunction;" fo) (hfo : fo.isRef = true) (hAD : Sta Z Z.heap "java/lang/StringUTF16" "$assertionsDisabled" "Z" (.int 1)) (hHI : Sta Z Z.heap "java/lang/StringUTF16" "HI_BYTE_SHIFT" "I" (.int 0)) (hLO : Sta Z Z.heap "java/lang/StringUTF16" "LO_BYTE_SHIFT" "I" (.int 8)) (hold : Old Z n0 h0) :
    MetFree l (⟨"java/lang/StringUTF16", "putChar", "([BII)V"⟩ : MethodName) (head1 (Jvm.Cond.code (⟨"java/lang/StringUTF16", "putChar", "([BII)V"⟩ : MethodName) jdk_52_method_4_code 3 none :: ws) (Rm 0 0 0 0)) (fun aa UU => aa = #[(.ref b), (.int 1), (.int uc)] ∧ Z.Warmed39 UU.vm ∧ UU.heap = h0) (fun _ _ _ _ _ => True) (fun _ UU oo U' => ∃ v L, oo = .returned v ∧ Qpu21 Z b kb e0_ e1_ e2_ e3_ uc h0 n0 v U'.heap L ∧ FrameEnd UU oo U' L (Rm 0 0 0 0).cells (Rm 0 0 0 0).slots) := by
  refine MetFree.of_bodySF (plainFor_of_name pn_2) hisR ?_
  intro p e s m args below meth c s₁ Bd hml0 hP hK
  obtain ⟨rfl, hZ, hh⟩ := hP
  have hx := Bd.exec
  have hby := Bd.bytes
  have hml : c.maxLocals = 3 := hml0
  have hown : s.vm.findClass "java/lang/StringUTF16" = some m.cls := findClass_of_methodNamed Bd.named
  have hnm := (name_of_methodNamed Bd.named Bd.method).1
  have X0 : Stand p l e (Rm 0 0 0 0) s m #[(.ref b), (.int 1), (.int uc)] below meth c s₁ [] 0 0 := Stand.of_body Bd
  have e0 : s₁.heap = h0 := by rw [← hh, Bd.state]; rfl
  have N0 := Fr.nil n0
  obtain ⟨A0, hA0⟩ : ∃ A, A = s₁.setTop (entryFrame m #[(.ref b), (.int 1), (.int uc)] 3) := ⟨_, rfl⟩
  have G0 : Go p e below A0 (s₁.setTop (mkF m 0 #[.val (.ref b), .val (.int 1), .val (.int uc)] [])) := fun tq kq => by rw [hA0]; exact castTop (ef_rmPu21 m b (1 : Int32) uc) kq
  obtain ⟨T531, X531, e531, st531⟩ := getS2 X0 hx hZ hown (host := "") (Or.inl (wd hw 115 rfl)) Via.refl e0 (hAD.ext hold.2) (g := (mkF m 0 #[.val (.ref b), .val (.int 1), .val (.int uc)] [])) rfl (hb hby d27_0)
  have G532 : Go p e below A0 (T531.setTop (mkF m 3 #[.val (.ref b), .val (.int 1), .val (.int uc)] [(.int 1)])) := fun tq kq => G0 tq (st531 _ kq)
  have G533 : Go p e below A0 (T531.setTop (mkF m 38 #[.val (.ref b), .val (.int 3), .val (.int uc)] [(.int uc), (.int 2), (.ref b)])) := fun tq kq => G532 tq (by
    refine XS.ifYes X531.here hx rfl (pc0 := 3) (pc' := 28) rfl (hb hby d27_3) rfl (by decide) (by decide) (by decide) ?_
    refine XS.iloadN X531.here hx rfl (hb hby d27_28) rfl ?_
    refine XS.iconst X531.here hx rfl (hb hby d27_29) ?_
    refine XS.ishl X531.here hx rfl (hb hby d27_30) rfl ?_
    show Steps p.tables e below (T531.setTop (mkF m 31 #[.val (.ref b), .val (.int 1), .val (.int uc)] [(.int ((1 : Int32) <<< ((1 : Int32) &&& 31)))])) _
    rw [show ((1 : Int32) <<< ((1 : Int32) &&& 31)) = (2 : Int32) from (by decide)]
    show Steps p.tables e below (T531.setTop (mkF m 31 #[.val (.ref b), .val (.int 1), .val (.int uc)] [(.int 2)])) _
    refine XS.istoreN X531.here hx rfl (hb hby d27_31) rfl (l' := #[.val (.ref b), .val (.int 2), .val (.int uc)]) rfl ?_
    refine XS.aloadN X531.here hx rfl (hb hby d27_32) rfl rfl ?_
    refine XS.iloadN X531.here hx rfl (hb hby d27_33) rfl ?_
    refine XS.iinc X531.here hx rfl (hb hby d27_34) rfl (l' := #[.val (.ref b), .val (.int ((2 : Int32) + (1 : Int32))), .val (.int uc)]) rfl ?_
    show Steps p.tables e below (T531.setTop (mkF m 37 #[.val (.ref b), .val (.int ((2 : Int32) + (1 : Int32))), .val (.int uc)] [(.int 2), (.ref b)])) _
    rw [show ((2 : Int32) + (1 : Int32)) = (3 : Int32) from (by decide : ((2 : Int32) + (1 : Int32)) = (3 : Int32))]
    show Steps p.tables e below (T531.setTop (mkF m 37 #[.val (.ref b), .val (.int 3), .val (.int uc)] [(.int 2), (.ref b)])) _
    refine XS.iloadN X531.here hx rfl (hb hby d27_37) rfl ?_
    exact kq)
  obtain ⟨T534, X534, e534, st534⟩ := getS2 X531 hx hZ hown (host := "") (Or.inl (wd hw 116 rfl)) Via.refl e531 (hHI.ext hold.2) (g := (mkF m 38 #[.val (.ref b), .val (.int 3), .val (.int uc)] [(.int uc), (.int 2), (.ref b)])) rfl (hb hby d27_38)
  have G535 : Go p e below A0 (T534.setTop (mkF m 41 #[.val (.ref b), .val (.int 3), .val (.int uc)] [(.int 0), (.int uc), (.int 2), (.ref b)])) := fun tq kq => G533 tq (st534 _ kq)
  have G536 : Go p e below A0 (T534.setTop (mkF m 43 #[.val (.ref b), .val (.int 3), .val (.int uc)] [(.int (own_lo uc)), (.int 2), (.ref b)])) := fun tq kq => G535 tq (by
    refine XS.ishr X534.here hx rfl (hb hby d27_41) rfl ?_
    refine XS.i2b X534.here hx rfl (hb hby d27_42) rfl ?_
    show Steps p.tables e below (T534.setTop (mkF m 43 #[.val (.ref b), .val (.int 3), .val (.int uc)] [(.int (uc >>> ((0 : Int32) &&& 31)).toInt8.toInt32), (.int 2), (.ref b)])) _
    rw [show (uc >>> ((0 : Int32) &&& 31)).toInt8.toInt32 = (own_lo uc) from rfl]
    show Steps p.tables e below (T534.setTop (mkF m 43 #[.val (.ref b), .val (.int 3), .val (.int uc)] [(.int (own_lo uc)), (.int 2), (.ref b)])) _
    exact kq)
  obtain ⟨cl537, Ar537, q537, S537, M537, H537, Gf537⟩ := id Ab
  have hi538 : ¬ ((2 : Int32) < 0 ∨ cl537.slots.size ≤ ((2 : Int32)).toNatClampNeg) := (inb_of S537 ⟨by decide, by decide⟩)
  obtain ⟨T539, h539, X539, e539, W539, st539⟩ := stB X534 hx hZ e534 Ar537 (j := (2 : Int32)) hi538 (g := (mkF m 43 #[.val (.ref b), .val (.int 3), .val (.int uc)] [(.int (own_lo uc)), (.int 2), (.ref b)])) rfl rfl (hb hby d27_43)
  rw [show nar .byte (own_lo uc) = (own_lo uc) from own_loN _] at W539
  have N539 := Fr.snoc X539 N0 gb
  have V539 := Arv.set Ar537 q537 S537 M537 H537 Gf537 (own_loF _) W539 2 rfl (Nat.le_of_ble_eq_true rfl)
  have V539' : Arv Z h539 b kb .byte (4 : Int32) [(.int e0_), (.int e1_), (.int (own_lo uc)), (.int e3_)] (.int 0) := by exact V539
  have G540 : Go p e below A0 (T539.setTop (mkF m 44 #[.val (.ref b), .val (.int 3), .val (.int uc)] [])) := fun tq kq => G536 tq (st539 _ kq)
  have G541 : Go p e below A0 (T539.setTop (mkF m 47 #[.val (.ref b), .val (.int 3), .val (.int uc)] [(.int uc), (.int 3), (.ref b)])) := fun tq kq => G540 tq (by
    refine XS.aloadN X539.here hx rfl (hb hby d27_44) rfl rfl ?_
    refine XS.iloadN X539.here hx rfl (hb hby d27_45) rfl ?_
    refine XS.iloadN X539.here hx rfl (hb hby d27_46) rfl ?_
    exact kq)
  obtain ⟨T542, X542, e542, st542⟩ := getS2 X539 hx hZ hown (host := "") (Or.inl (wd hw 117 rfl)) Via.refl e539 (hLO.ext (hold.wr W539 gb).2) (g := (mkF m 47 #[.val (.ref b), .val (.int 3), .val (.int uc)] [(.int uc), (.int 3), (.ref b)])) rfl (hb hby d27_47)
  have G543 : Go p e below A0 (T542.setTop (mkF m 50 #[.val (.ref b), .val (.int 3), .val (.int uc)] [(.int 8), (.int uc), (.int 3), (.ref b)])) := fun tq kq => G541 tq (st542 _ kq)
  have G544 : Go p e below A0 (T542.setTop (mkF m 52 #[.val (.ref b), .val (.int 3), .val (.int uc)] [(.int (own_hi uc)), (.int 3), (.ref b)])) := fun tq kq => G543 tq (by
    refine XS.ishr X542.here hx rfl (hb hby d27_50) rfl ?_
    refine XS.i2b X542.here hx rfl (hb hby d27_51) rfl ?_
    show Steps p.tables e below (T542.setTop (mkF m 52 #[.val (.ref b), .val (.int 3), .val (.int uc)] [(.int (uc >>> ((8 : Int32) &&& 31)).toInt8.toInt32), (.int 3), (.ref b)])) _
    rw [show (uc >>> ((8 : Int32) &&& 31)).toInt8.toInt32 = (own_hi uc) from rfl]
    show Steps p.tables e below (T542.setTop (mkF m 52 #[.val (.ref b), .val (.int 3), .val (.int uc)] [(.int (own_hi uc)), (.int 3), (.ref b)])) _
    exact kq)
  obtain ⟨cl545, Ar545, q545, S545, M545, H545, Gf545⟩ := id V539'
  have hi546 : ¬ ((3 : Int32) < 0 ∨ cl545.slots.size ≤ ((3 : Int32)).toNatClampNeg) := (inb_of S545 ⟨by decide, by decide⟩)
  obtain ⟨T547, h547, X547, e547, W547, st547⟩ := stB X542 hx hZ e542 Ar545 (j := (3 : Int32)) hi546 (g := (mkF m 52 #[.val (.ref b), .val (.int 3), .val (.int uc)] [(.int (own_hi uc)), (.int 3), (.ref b)])) rfl rfl (hb hby d27_52)
  rw [show nar .byte (own_hi uc) = (own_hi uc) from own_hiN _] at W547
  have N547 := Fr.snoc X547 N539 gb
  have V547 := Arv.set Ar545 q545 S545 M545 H545 Gf545 (own_hiF _) W547 3 rfl (Nat.le_of_ble_eq_true rfl)
  have V547' : Arv Z h547 b kb .byte (4 : Int32) [(.int e0_), (.int e1_), (.int (own_lo uc)), (.int (own_hi uc))] (.int 0) := by exact V547
  have G548 : Go p e below A0 (T547.setTop (mkF m 53 #[.val (.ref b), .val (.int 3), .val (.int uc)] [])) := fun tq kq => G544 tq (st547 _ kq)
  obtain ⟨fs, hr, hrun, hended, hW, hsame⟩ := X547.leave (v := none) (fun _ => rfl)
  refine ⟨_, _, (by rw [← hA0]; exact G548 _ (X547.returnOut hx Bd.returns (hb hby d27_53) hr)), hrun, hended, _, _, rfl, ?_, ⟨_, rfl⟩, hW, hsame.mono (by decide) (by decide)⟩
  show Qpu21 Z b kb e0_ e1_ e2_ e3_ uc h0 n0 _ T547.heap _
  rw [e547]
  exact ⟨rfl, N547, (((Keep.refl h0 [b]).wr W539 (Or.inl (List.mem_of_getElem? (i := 0) rfl))).wr W547 (Or.inl (List.mem_of_getElem? (i := 0) rfl))), V547'⟩
def Qpu30 (Z : State) (b : Addr) (kb : ClassId) (e0_ e1_ e2_ e3_ e4_ e5_ uc : Int32) (h0 : Heap) (n0 : Nat) (v : Option Value) (h : Heap) (L : List Loc) : Prop := v = none ∧ Fr n0 L ∧ Keep h0 h [b] ∧ Arv Z h b kb .byte (6 : Int32) [(.int (own_lo uc)), (.int (own_hi uc)), (.int e2_), (.int e3_), (.int e4_), (.int e5_)] (.int 0)
set_option maxRecDepth 65536 in
set_option maxHeartbeats 40000000 in
theorem rmPu30 (l : Launch) (Z : State) (a0 : Array Value) (hw : ∀ d ∈ tables_1, d.before a0 Z = true) (ws : List Jvm.Cond) (b : Addr) (kb : ClassId) (e0_ e1_ e2_ e3_ e4_ e5_ uc : Int32) (cs : Int32) (fo : Value) (h0 : Heap) (n0 : Nat) (Z0 : n0 ≤ h0.size) (Ab : Arv Z h0 b kb .byte (6 : Int32) [(.int e0_), (.int e1_), (.int e2_), (.int e3_), (.int e4_), (.int e5_)] (.int 0)) (gb : n0 ≤ b) (hCS : Sta Z Z.heap "java/lang/String" "COMPACT_STRINGS" "Z" (.int cs)) (hcs : ¬ cs = (0 : Int32)) (hSF : Sta Z Z.heap "jdk/internal/util/Preconditions" "SIOOBE_FORMATTER" "Ljava/util/function/BiFunction;" fo) (hfo : fo.isRef = true) (hAD : Sta Z Z.heap "java/lang/StringUTF16" "$assertionsDisabled" "Z" (.int 1)) (hHI : Sta Z Z.heap "java/lang/StringUTF16" "HI_BYTE_SHIFT" "I" (.int 0)) (hLO : Sta Z Z.heap "java/lang/StringUTF16" "LO_BYTE_SHIFT" "I" (.int 8)) (hold : Old Z n0 h0) :
    MetFree l (⟨"java/lang/StringUTF16", "putChar", "([BII)V"⟩ : MethodName) (head1 (Jvm.Cond.code (⟨"java/lang/StringUTF16", "putChar", "([BII)V"⟩ : MethodName) jdk_52_method_4_code 3 none :: ws) (Rm 0 0 0 0)) (fun aa UU => aa = #[(.ref b), (.int 0), (.int uc)] ∧ Z.Warmed39 UU.vm ∧ UU.heap = h0) (fun _ _ _ _ _ => True) (fun _ UU oo U' => ∃ v L, oo = .returned v ∧ Qpu30 Z b kb e0_ e1_ e2_ e3_ e4_ e5_ uc h0 n0 v U'.heap L ∧ FrameEnd UU oo U' L (Rm 0 0 0 0).cells (Rm 0 0 0 0).slots) := by
  refine MetFree.of_bodySF (plainFor_of_name pn_2) hisR ?_
  intro p e s m args below meth c s₁ Bd hml0 hP hK
  obtain ⟨rfl, hZ, hh⟩ := hP
  have hx := Bd.exec
  have hby := Bd.bytes
  have hml : c.maxLocals = 3 := hml0
  have hown : s.vm.findClass "java/lang/StringUTF16" = some m.cls := findClass_of_methodNamed Bd.named
  have hnm := (name_of_methodNamed Bd.named Bd.method).1
  have X0 : Stand p l e (Rm 0 0 0 0) s m #[(.ref b), (.int 0), (.int uc)] below meth c s₁ [] 0 0 := Stand.of_body Bd
  have e0 : s₁.heap = h0 := by rw [← hh, Bd.state]; rfl
  have N0 := Fr.nil n0
  obtain ⟨A0, hA0⟩ : ∃ A, A = s₁.setTop (entryFrame m #[(.ref b), (.int 0), (.int uc)] 3) := ⟨_, rfl⟩
  have G0 : Go p e below A0 (s₁.setTop (mkF m 0 #[.val (.ref b), .val (.int 0), .val (.int uc)] [])) := fun tq kq => by rw [hA0]; exact castTop (ef_rmPu30 m b (0 : Int32) uc) kq
  obtain ⟨T549, X549, e549, st549⟩ := getS2 X0 hx hZ hown (host := "") (Or.inl (wd hw 115 rfl)) Via.refl e0 (hAD.ext hold.2) (g := (mkF m 0 #[.val (.ref b), .val (.int 0), .val (.int uc)] [])) rfl (hb hby d27_0)
  have G550 : Go p e below A0 (T549.setTop (mkF m 3 #[.val (.ref b), .val (.int 0), .val (.int uc)] [(.int 1)])) := fun tq kq => G0 tq (st549 _ kq)
  have G551 : Go p e below A0 (T549.setTop (mkF m 38 #[.val (.ref b), .val (.int 1), .val (.int uc)] [(.int uc), (.int 0), (.ref b)])) := fun tq kq => G550 tq (by
    refine XS.ifYes X549.here hx rfl (pc0 := 3) (pc' := 28) rfl (hb hby d27_3) rfl (by decide) (by decide) (by decide) ?_
    refine XS.iloadN X549.here hx rfl (hb hby d27_28) rfl ?_
    refine XS.iconst X549.here hx rfl (hb hby d27_29) ?_
    refine XS.ishl X549.here hx rfl (hb hby d27_30) rfl ?_
    show Steps p.tables e below (T549.setTop (mkF m 31 #[.val (.ref b), .val (.int 0), .val (.int uc)] [(.int ((0 : Int32) <<< ((1 : Int32) &&& 31)))])) _
    rw [show ((0 : Int32) <<< ((1 : Int32) &&& 31)) = (0 : Int32) from (by decide)]
    show Steps p.tables e below (T549.setTop (mkF m 31 #[.val (.ref b), .val (.int 0), .val (.int uc)] [(.int 0)])) _
    refine XS.istoreN X549.here hx rfl (hb hby d27_31) rfl (l' := #[.val (.ref b), .val (.int 0), .val (.int uc)]) rfl ?_
    refine XS.aloadN X549.here hx rfl (hb hby d27_32) rfl rfl ?_
    refine XS.iloadN X549.here hx rfl (hb hby d27_33) rfl ?_
    refine XS.iinc X549.here hx rfl (hb hby d27_34) rfl (l' := #[.val (.ref b), .val (.int ((0 : Int32) + (1 : Int32))), .val (.int uc)]) rfl ?_
    show Steps p.tables e below (T549.setTop (mkF m 37 #[.val (.ref b), .val (.int ((0 : Int32) + (1 : Int32))), .val (.int uc)] [(.int 0), (.ref b)])) _
    rw [show ((0 : Int32) + (1 : Int32)) = (1 : Int32) from (by decide : ((0 : Int32) + (1 : Int32)) = (1 : Int32))]
    show Steps p.tables e below (T549.setTop (mkF m 37 #[.val (.ref b), .val (.int 1), .val (.int uc)] [(.int 0), (.ref b)])) _
    refine XS.iloadN X549.here hx rfl (hb hby d27_37) rfl ?_
    exact kq)
  obtain ⟨T552, X552, e552, st552⟩ := getS2 X549 hx hZ hown (host := "") (Or.inl (wd hw 116 rfl)) Via.refl e549 (hHI.ext hold.2) (g := (mkF m 38 #[.val (.ref b), .val (.int 1), .val (.int uc)] [(.int uc), (.int 0), (.ref b)])) rfl (hb hby d27_38)
  have G553 : Go p e below A0 (T552.setTop (mkF m 41 #[.val (.ref b), .val (.int 1), .val (.int uc)] [(.int 0), (.int uc), (.int 0), (.ref b)])) := fun tq kq => G551 tq (st552 _ kq)
  have G554 : Go p e below A0 (T552.setTop (mkF m 43 #[.val (.ref b), .val (.int 1), .val (.int uc)] [(.int (own_lo uc)), (.int 0), (.ref b)])) := fun tq kq => G553 tq (by
    refine XS.ishr X552.here hx rfl (hb hby d27_41) rfl ?_
    refine XS.i2b X552.here hx rfl (hb hby d27_42) rfl ?_
    show Steps p.tables e below (T552.setTop (mkF m 43 #[.val (.ref b), .val (.int 1), .val (.int uc)] [(.int (uc >>> ((0 : Int32) &&& 31)).toInt8.toInt32), (.int 0), (.ref b)])) _
    rw [show (uc >>> ((0 : Int32) &&& 31)).toInt8.toInt32 = (own_lo uc) from rfl]
    show Steps p.tables e below (T552.setTop (mkF m 43 #[.val (.ref b), .val (.int 1), .val (.int uc)] [(.int (own_lo uc)), (.int 0), (.ref b)])) _
    exact kq)
  obtain ⟨cl555, Ar555, q555, S555, M555, H555, Gf555⟩ := id Ab
  have hi556 : ¬ ((0 : Int32) < 0 ∨ cl555.slots.size ≤ ((0 : Int32)).toNatClampNeg) := (inb_of S555 ⟨by decide, by decide⟩)
  obtain ⟨T557, h557, X557, e557, W557, st557⟩ := stB X552 hx hZ e552 Ar555 (j := (0 : Int32)) hi556 (g := (mkF m 43 #[.val (.ref b), .val (.int 1), .val (.int uc)] [(.int (own_lo uc)), (.int 0), (.ref b)])) rfl rfl (hb hby d27_43)
  rw [show nar .byte (own_lo uc) = (own_lo uc) from own_loN _] at W557
  have N557 := Fr.snoc X557 N0 gb
  have V557 := Arv.set Ar555 q555 S555 M555 H555 Gf555 (own_loF _) W557 0 rfl (Nat.le_of_ble_eq_true rfl)
  have V557' : Arv Z h557 b kb .byte (6 : Int32) [(.int (own_lo uc)), (.int e1_), (.int e2_), (.int e3_), (.int e4_), (.int e5_)] (.int 0) := by exact V557
  have G558 : Go p e below A0 (T557.setTop (mkF m 44 #[.val (.ref b), .val (.int 1), .val (.int uc)] [])) := fun tq kq => G554 tq (st557 _ kq)
  have G559 : Go p e below A0 (T557.setTop (mkF m 47 #[.val (.ref b), .val (.int 1), .val (.int uc)] [(.int uc), (.int 1), (.ref b)])) := fun tq kq => G558 tq (by
    refine XS.aloadN X557.here hx rfl (hb hby d27_44) rfl rfl ?_
    refine XS.iloadN X557.here hx rfl (hb hby d27_45) rfl ?_
    refine XS.iloadN X557.here hx rfl (hb hby d27_46) rfl ?_
    exact kq)
  obtain ⟨T560, X560, e560, st560⟩ := getS2 X557 hx hZ hown (host := "") (Or.inl (wd hw 117 rfl)) Via.refl e557 (hLO.ext (hold.wr W557 gb).2) (g := (mkF m 47 #[.val (.ref b), .val (.int 1), .val (.int uc)] [(.int uc), (.int 1), (.ref b)])) rfl (hb hby d27_47)
  have G561 : Go p e below A0 (T560.setTop (mkF m 50 #[.val (.ref b), .val (.int 1), .val (.int uc)] [(.int 8), (.int uc), (.int 1), (.ref b)])) := fun tq kq => G559 tq (st560 _ kq)
  have G562 : Go p e below A0 (T560.setTop (mkF m 52 #[.val (.ref b), .val (.int 1), .val (.int uc)] [(.int (own_hi uc)), (.int 1), (.ref b)])) := fun tq kq => G561 tq (by
    refine XS.ishr X560.here hx rfl (hb hby d27_50) rfl ?_
    refine XS.i2b X560.here hx rfl (hb hby d27_51) rfl ?_
    show Steps p.tables e below (T560.setTop (mkF m 52 #[.val (.ref b), .val (.int 1), .val (.int uc)] [(.int (uc >>> ((8 : Int32) &&& 31)).toInt8.toInt32), (.int 1), (.ref b)])) _
    rw [show (uc >>> ((8 : Int32) &&& 31)).toInt8.toInt32 = (own_hi uc) from rfl]
    show Steps p.tables e below (T560.setTop (mkF m 52 #[.val (.ref b), .val (.int 1), .val (.int uc)] [(.int (own_hi uc)), (.int 1), (.ref b)])) _
    exact kq)
  obtain ⟨cl563, Ar563, q563, S563, M563, H563, Gf563⟩ := id V557'
  have hi564 : ¬ ((1 : Int32) < 0 ∨ cl563.slots.size ≤ ((1 : Int32)).toNatClampNeg) := (inb_of S563 ⟨by decide, by decide⟩)
  obtain ⟨T565, h565, X565, e565, W565, st565⟩ := stB X560 hx hZ e560 Ar563 (j := (1 : Int32)) hi564 (g := (mkF m 52 #[.val (.ref b), .val (.int 1), .val (.int uc)] [(.int (own_hi uc)), (.int 1), (.ref b)])) rfl rfl (hb hby d27_52)
  rw [show nar .byte (own_hi uc) = (own_hi uc) from own_hiN _] at W565
  have N565 := Fr.snoc X565 N557 gb
  have V565 := Arv.set Ar563 q563 S563 M563 H563 Gf563 (own_hiF _) W565 1 rfl (Nat.le_of_ble_eq_true rfl)
  have V565' : Arv Z h565 b kb .byte (6 : Int32) [(.int (own_lo uc)), (.int (own_hi uc)), (.int e2_), (.int e3_), (.int e4_), (.int e5_)] (.int 0) := by exact V565
  have G566 : Go p e below A0 (T565.setTop (mkF m 53 #[.val (.ref b), .val (.int 1), .val (.int uc)] [])) := fun tq kq => G562 tq (st565 _ kq)
  obtain ⟨fs, hr, hrun, hended, hW, hsame⟩ := X565.leave (v := none) (fun _ => rfl)
  refine ⟨_, _, (by rw [← hA0]; exact G566 _ (X565.returnOut hx Bd.returns (hb hby d27_53) hr)), hrun, hended, _, _, rfl, ?_, ⟨_, rfl⟩, hW, hsame.mono (by decide) (by decide)⟩
  show Qpu30 Z b kb e0_ e1_ e2_ e3_ e4_ e5_ uc h0 n0 _ T565.heap _
  rw [e565]
  exact ⟨rfl, N565, (((Keep.refl h0 [b]).wr W557 (Or.inl (List.mem_of_getElem? (i := 0) rfl))).wr W565 (Or.inl (List.mem_of_getElem? (i := 0) rfl))), V565'⟩
def Qpu31 (Z : State) (b : Addr) (kb : ClassId) (e0_ e1_ e2_ e3_ e4_ e5_ uc : Int32) (h0 : Heap) (n0 : Nat) (v : Option Value) (h : Heap) (L : List Loc) : Prop := v = none ∧ Fr n0 L ∧ Keep h0 h [b] ∧ Arv Z h b kb .byte (6 : Int32) [(.int e0_), (.int e1_), (.int (own_lo uc)), (.int (own_hi uc)), (.int e4_), (.int e5_)] (.int 0)
set_option maxRecDepth 65536 in
set_option maxHeartbeats 40000000 in
theorem rmPu31 (l : Launch) (Z : State) (a0 : Array Value) (hw : ∀ d ∈ tables_1, d.before a0 Z = true) (ws : List Jvm.Cond) (b : Addr) (kb : ClassId) (e0_ e1_ e2_ e3_ e4_ e5_ uc : Int32) (cs : Int32) (fo : Value) (h0 : Heap) (n0 : Nat) (Z0 : n0 ≤ h0.size) (Ab : Arv Z h0 b kb .byte (6 : Int32) [(.int e0_), (.int e1_), (.int e2_), (.int e3_), (.int e4_), (.int e5_)] (.int 0)) (gb : n0 ≤ b) (hCS : Sta Z Z.heap "java/lang/String" "COMPACT_STRINGS" "Z" (.int cs)) (hcs : ¬ cs = (0 : Int32)) (hSF : Sta Z Z.heap "jdk/internal/util/Preconditions" "SIOOBE_FORMATTER" "Ljava/util/function/BiFunction;" fo) (hfo : fo.isRef = true) (hAD : Sta Z Z.heap "java/lang/StringUTF16" "$assertionsDisabled" "Z" (.int 1)) (hHI : Sta Z Z.heap "java/lang/StringUTF16" "HI_BYTE_SHIFT" "I" (.int 0)) (hLO : Sta Z Z.heap "java/lang/StringUTF16" "LO_BYTE_SHIFT" "I" (.int 8)) (hold : Old Z n0 h0) :
    MetFree l (⟨"java/lang/StringUTF16", "putChar", "([BII)V"⟩ : MethodName) (head1 (Jvm.Cond.code (⟨"java/lang/StringUTF16", "putChar", "([BII)V"⟩ : MethodName) jdk_52_method_4_code 3 none :: ws) (Rm 0 0 0 0)) (fun aa UU => aa = #[(.ref b), (.int 1), (.int uc)] ∧ Z.Warmed39 UU.vm ∧ UU.heap = h0) (fun _ _ _ _ _ => True) (fun _ UU oo U' => ∃ v L, oo = .returned v ∧ Qpu31 Z b kb e0_ e1_ e2_ e3_ e4_ e5_ uc h0 n0 v U'.heap L ∧ FrameEnd UU oo U' L (Rm 0 0 0 0).cells (Rm 0 0 0 0).slots) := by
  refine MetFree.of_bodySF (plainFor_of_name pn_2) hisR ?_
  intro p e s m args below meth c s₁ Bd hml0 hP hK
  obtain ⟨rfl, hZ, hh⟩ := hP
  have hx := Bd.exec
  have hby := Bd.bytes
  have hml : c.maxLocals = 3 := hml0
  have hown : s.vm.findClass "java/lang/StringUTF16" = some m.cls := findClass_of_methodNamed Bd.named
  have hnm := (name_of_methodNamed Bd.named Bd.method).1
  have X0 : Stand p l e (Rm 0 0 0 0) s m #[(.ref b), (.int 1), (.int uc)] below meth c s₁ [] 0 0 := Stand.of_body Bd
  have e0 : s₁.heap = h0 := by rw [← hh, Bd.state]; rfl
  have N0 := Fr.nil n0
  obtain ⟨A0, hA0⟩ : ∃ A, A = s₁.setTop (entryFrame m #[(.ref b), (.int 1), (.int uc)] 3) := ⟨_, rfl⟩
  have G0 : Go p e below A0 (s₁.setTop (mkF m 0 #[.val (.ref b), .val (.int 1), .val (.int uc)] [])) := fun tq kq => by rw [hA0]; exact castTop (ef_rmPu31 m b (1 : Int32) uc) kq
  obtain ⟨T567, X567, e567, st567⟩ := getS2 X0 hx hZ hown (host := "") (Or.inl (wd hw 115 rfl)) Via.refl e0 (hAD.ext hold.2) (g := (mkF m 0 #[.val (.ref b), .val (.int 1), .val (.int uc)] [])) rfl (hb hby d27_0)
  have G568 : Go p e below A0 (T567.setTop (mkF m 3 #[.val (.ref b), .val (.int 1), .val (.int uc)] [(.int 1)])) := fun tq kq => G0 tq (st567 _ kq)
  have G569 : Go p e below A0 (T567.setTop (mkF m 38 #[.val (.ref b), .val (.int 3), .val (.int uc)] [(.int uc), (.int 2), (.ref b)])) := fun tq kq => G568 tq (by
    refine XS.ifYes X567.here hx rfl (pc0 := 3) (pc' := 28) rfl (hb hby d27_3) rfl (by decide) (by decide) (by decide) ?_
    refine XS.iloadN X567.here hx rfl (hb hby d27_28) rfl ?_
    refine XS.iconst X567.here hx rfl (hb hby d27_29) ?_
    refine XS.ishl X567.here hx rfl (hb hby d27_30) rfl ?_
    show Steps p.tables e below (T567.setTop (mkF m 31 #[.val (.ref b), .val (.int 1), .val (.int uc)] [(.int ((1 : Int32) <<< ((1 : Int32) &&& 31)))])) _
    rw [show ((1 : Int32) <<< ((1 : Int32) &&& 31)) = (2 : Int32) from (by decide)]
    show Steps p.tables e below (T567.setTop (mkF m 31 #[.val (.ref b), .val (.int 1), .val (.int uc)] [(.int 2)])) _
    refine XS.istoreN X567.here hx rfl (hb hby d27_31) rfl (l' := #[.val (.ref b), .val (.int 2), .val (.int uc)]) rfl ?_
    refine XS.aloadN X567.here hx rfl (hb hby d27_32) rfl rfl ?_
    refine XS.iloadN X567.here hx rfl (hb hby d27_33) rfl ?_
    refine XS.iinc X567.here hx rfl (hb hby d27_34) rfl (l' := #[.val (.ref b), .val (.int ((2 : Int32) + (1 : Int32))), .val (.int uc)]) rfl ?_
    show Steps p.tables e below (T567.setTop (mkF m 37 #[.val (.ref b), .val (.int ((2 : Int32) + (1 : Int32))), .val (.int uc)] [(.int 2), (.ref b)])) _
    rw [show ((2 : Int32) + (1 : Int32)) = (3 : Int32) from (by decide : ((2 : Int32) + (1 : Int32)) = (3 : Int32))]
    show Steps p.tables e below (T567.setTop (mkF m 37 #[.val (.ref b), .val (.int 3), .val (.int uc)] [(.int 2), (.ref b)])) _
    refine XS.iloadN X567.here hx rfl (hb hby d27_37) rfl ?_
    exact kq)
  obtain ⟨T570, X570, e570, st570⟩ := getS2 X567 hx hZ hown (host := "") (Or.inl (wd hw 116 rfl)) Via.refl e567 (hHI.ext hold.2) (g := (mkF m 38 #[.val (.ref b), .val (.int 3), .val (.int uc)] [(.int uc), (.int 2), (.ref b)])) rfl (hb hby d27_38)
  have G571 : Go p e below A0 (T570.setTop (mkF m 41 #[.val (.ref b), .val (.int 3), .val (.int uc)] [(.int 0), (.int uc), (.int 2), (.ref b)])) := fun tq kq => G569 tq (st570 _ kq)
  have G572 : Go p e below A0 (T570.setTop (mkF m 43 #[.val (.ref b), .val (.int 3), .val (.int uc)] [(.int (own_lo uc)), (.int 2), (.ref b)])) := fun tq kq => G571 tq (by
    refine XS.ishr X570.here hx rfl (hb hby d27_41) rfl ?_
    refine XS.i2b X570.here hx rfl (hb hby d27_42) rfl ?_
    show Steps p.tables e below (T570.setTop (mkF m 43 #[.val (.ref b), .val (.int 3), .val (.int uc)] [(.int (uc >>> ((0 : Int32) &&& 31)).toInt8.toInt32), (.int 2), (.ref b)])) _
    rw [show (uc >>> ((0 : Int32) &&& 31)).toInt8.toInt32 = (own_lo uc) from rfl]
    show Steps p.tables e below (T570.setTop (mkF m 43 #[.val (.ref b), .val (.int 3), .val (.int uc)] [(.int (own_lo uc)), (.int 2), (.ref b)])) _
    exact kq)
  obtain ⟨cl573, Ar573, q573, S573, M573, H573, Gf573⟩ := id Ab
  have hi574 : ¬ ((2 : Int32) < 0 ∨ cl573.slots.size ≤ ((2 : Int32)).toNatClampNeg) := (inb_of S573 ⟨by decide, by decide⟩)
  obtain ⟨T575, h575, X575, e575, W575, st575⟩ := stB X570 hx hZ e570 Ar573 (j := (2 : Int32)) hi574 (g := (mkF m 43 #[.val (.ref b), .val (.int 3), .val (.int uc)] [(.int (own_lo uc)), (.int 2), (.ref b)])) rfl rfl (hb hby d27_43)
  rw [show nar .byte (own_lo uc) = (own_lo uc) from own_loN _] at W575
  have N575 := Fr.snoc X575 N0 gb
  have V575 := Arv.set Ar573 q573 S573 M573 H573 Gf573 (own_loF _) W575 2 rfl (Nat.le_of_ble_eq_true rfl)
  have V575' : Arv Z h575 b kb .byte (6 : Int32) [(.int e0_), (.int e1_), (.int (own_lo uc)), (.int e3_), (.int e4_), (.int e5_)] (.int 0) := by exact V575
  have G576 : Go p e below A0 (T575.setTop (mkF m 44 #[.val (.ref b), .val (.int 3), .val (.int uc)] [])) := fun tq kq => G572 tq (st575 _ kq)
  have G577 : Go p e below A0 (T575.setTop (mkF m 47 #[.val (.ref b), .val (.int 3), .val (.int uc)] [(.int uc), (.int 3), (.ref b)])) := fun tq kq => G576 tq (by
    refine XS.aloadN X575.here hx rfl (hb hby d27_44) rfl rfl ?_
    refine XS.iloadN X575.here hx rfl (hb hby d27_45) rfl ?_
    refine XS.iloadN X575.here hx rfl (hb hby d27_46) rfl ?_
    exact kq)
  obtain ⟨T578, X578, e578, st578⟩ := getS2 X575 hx hZ hown (host := "") (Or.inl (wd hw 117 rfl)) Via.refl e575 (hLO.ext (hold.wr W575 gb).2) (g := (mkF m 47 #[.val (.ref b), .val (.int 3), .val (.int uc)] [(.int uc), (.int 3), (.ref b)])) rfl (hb hby d27_47)
  have G579 : Go p e below A0 (T578.setTop (mkF m 50 #[.val (.ref b), .val (.int 3), .val (.int uc)] [(.int 8), (.int uc), (.int 3), (.ref b)])) := fun tq kq => G577 tq (st578 _ kq)
  have G580 : Go p e below A0 (T578.setTop (mkF m 52 #[.val (.ref b), .val (.int 3), .val (.int uc)] [(.int (own_hi uc)), (.int 3), (.ref b)])) := fun tq kq => G579 tq (by
    refine XS.ishr X578.here hx rfl (hb hby d27_50) rfl ?_
    refine XS.i2b X578.here hx rfl (hb hby d27_51) rfl ?_
    show Steps p.tables e below (T578.setTop (mkF m 52 #[.val (.ref b), .val (.int 3), .val (.int uc)] [(.int (uc >>> ((8 : Int32) &&& 31)).toInt8.toInt32), (.int 3), (.ref b)])) _
    rw [show (uc >>> ((8 : Int32) &&& 31)).toInt8.toInt32 = (own_hi uc) from rfl]
    show Steps p.tables e below (T578.setTop (mkF m 52 #[.val (.ref b), .val (.int 3), .val (.int uc)] [(.int (own_hi uc)), (.int 3), (.ref b)])) _
    exact kq)
  obtain ⟨cl581, Ar581, q581, S581, M581, H581, Gf581⟩ := id V575'
  have hi582 : ¬ ((3 : Int32) < 0 ∨ cl581.slots.size ≤ ((3 : Int32)).toNatClampNeg) := (inb_of S581 ⟨by decide, by decide⟩)
  obtain ⟨T583, h583, X583, e583, W583, st583⟩ := stB X578 hx hZ e578 Ar581 (j := (3 : Int32)) hi582 (g := (mkF m 52 #[.val (.ref b), .val (.int 3), .val (.int uc)] [(.int (own_hi uc)), (.int 3), (.ref b)])) rfl rfl (hb hby d27_52)
  rw [show nar .byte (own_hi uc) = (own_hi uc) from own_hiN _] at W583
  have N583 := Fr.snoc X583 N575 gb
  have V583 := Arv.set Ar581 q581 S581 M581 H581 Gf581 (own_hiF _) W583 3 rfl (Nat.le_of_ble_eq_true rfl)
  have V583' : Arv Z h583 b kb .byte (6 : Int32) [(.int e0_), (.int e1_), (.int (own_lo uc)), (.int (own_hi uc)), (.int e4_), (.int e5_)] (.int 0) := by exact V583
  have G584 : Go p e below A0 (T583.setTop (mkF m 53 #[.val (.ref b), .val (.int 3), .val (.int uc)] [])) := fun tq kq => G580 tq (st583 _ kq)
  obtain ⟨fs, hr, hrun, hended, hW, hsame⟩ := X583.leave (v := none) (fun _ => rfl)
  refine ⟨_, _, (by rw [← hA0]; exact G584 _ (X583.returnOut hx Bd.returns (hb hby d27_53) hr)), hrun, hended, _, _, rfl, ?_, ⟨_, rfl⟩, hW, hsame.mono (by decide) (by decide)⟩
  show Qpu31 Z b kb e0_ e1_ e2_ e3_ e4_ e5_ uc h0 n0 _ T583.heap _
  rw [e583]
  exact ⟨rfl, N583, (((Keep.refl h0 [b]).wr W575 (Or.inl (List.mem_of_getElem? (i := 0) rfl))).wr W583 (Or.inl (List.mem_of_getElem? (i := 0) rfl))), V583'⟩
def Qpu32 (Z : State) (b : Addr) (kb : ClassId) (e0_ e1_ e2_ e3_ e4_ e5_ uc : Int32) (h0 : Heap) (n0 : Nat) (v : Option Value) (h : Heap) (L : List Loc) : Prop := v = none ∧ Fr n0 L ∧ Keep h0 h [b] ∧ Arv Z h b kb .byte (6 : Int32) [(.int e0_), (.int e1_), (.int e2_), (.int e3_), (.int (own_lo uc)), (.int (own_hi uc))] (.int 0)
set_option maxRecDepth 65536 in
set_option maxHeartbeats 40000000 in
theorem rmPu32 (l : Launch) (Z : State) (a0 : Array Value) (hw : ∀ d ∈ tables_1, d.before a0 Z = true) (ws : List Jvm.Cond) (b : Addr) (kb : ClassId) (e0_ e1_ e2_ e3_ e4_ e5_ uc : Int32) (cs : Int32) (fo : Value) (h0 : Heap) (n0 : Nat) (Z0 : n0 ≤ h0.size) (Ab : Arv Z h0 b kb .byte (6 : Int32) [(.int e0_), (.int e1_), (.int e2_), (.int e3_), (.int e4_), (.int e5_)] (.int 0)) (gb : n0 ≤ b) (hCS : Sta Z Z.heap "java/lang/String" "COMPACT_STRINGS" "Z" (.int cs)) (hcs : ¬ cs = (0 : Int32)) (hSF : Sta Z Z.heap "jdk/internal/util/Preconditions" "SIOOBE_FORMATTER" "Ljava/util/function/BiFunction;" fo) (hfo : fo.isRef = true) (hAD : Sta Z Z.heap "java/lang/StringUTF16" "$assertionsDisabled" "Z" (.int 1)) (hHI : Sta Z Z.heap "java/lang/StringUTF16" "HI_BYTE_SHIFT" "I" (.int 0)) (hLO : Sta Z Z.heap "java/lang/StringUTF16" "LO_BYTE_SHIFT" "I" (.int 8)) (hold : Old Z n0 h0) :
    MetFree l (⟨"java/lang/StringUTF16", "putChar", "([BII)V"⟩ : MethodName) (head1 (Jvm.Cond.code (⟨"java/lang/StringUTF16", "putChar", "([BII)V"⟩ : MethodName) jdk_52_method_4_code 3 none :: ws) (Rm 0 0 0 0)) (fun aa UU => aa = #[(.ref b), (.int 2), (.int uc)] ∧ Z.Warmed39 UU.vm ∧ UU.heap = h0) (fun _ _ _ _ _ => True) (fun _ UU oo U' => ∃ v L, oo = .returned v ∧ Qpu32 Z b kb e0_ e1_ e2_ e3_ e4_ e5_ uc h0 n0 v U'.heap L ∧ FrameEnd UU oo U' L (Rm 0 0 0 0).cells (Rm 0 0 0 0).slots) := by
  refine MetFree.of_bodySF (plainFor_of_name pn_2) hisR ?_
  intro p e s m args below meth c s₁ Bd hml0 hP hK
  obtain ⟨rfl, hZ, hh⟩ := hP
  have hx := Bd.exec
  have hby := Bd.bytes
  have hml : c.maxLocals = 3 := hml0
  have hown : s.vm.findClass "java/lang/StringUTF16" = some m.cls := findClass_of_methodNamed Bd.named
  have hnm := (name_of_methodNamed Bd.named Bd.method).1
  have X0 : Stand p l e (Rm 0 0 0 0) s m #[(.ref b), (.int 2), (.int uc)] below meth c s₁ [] 0 0 := Stand.of_body Bd
  have e0 : s₁.heap = h0 := by rw [← hh, Bd.state]; rfl
  have N0 := Fr.nil n0
  obtain ⟨A0, hA0⟩ : ∃ A, A = s₁.setTop (entryFrame m #[(.ref b), (.int 2), (.int uc)] 3) := ⟨_, rfl⟩
  have G0 : Go p e below A0 (s₁.setTop (mkF m 0 #[.val (.ref b), .val (.int 2), .val (.int uc)] [])) := fun tq kq => by rw [hA0]; exact castTop (ef_rmPu32 m b (2 : Int32) uc) kq
  obtain ⟨T585, X585, e585, st585⟩ := getS2 X0 hx hZ hown (host := "") (Or.inl (wd hw 115 rfl)) Via.refl e0 (hAD.ext hold.2) (g := (mkF m 0 #[.val (.ref b), .val (.int 2), .val (.int uc)] [])) rfl (hb hby d27_0)
  have G586 : Go p e below A0 (T585.setTop (mkF m 3 #[.val (.ref b), .val (.int 2), .val (.int uc)] [(.int 1)])) := fun tq kq => G0 tq (st585 _ kq)
  have G587 : Go p e below A0 (T585.setTop (mkF m 38 #[.val (.ref b), .val (.int 5), .val (.int uc)] [(.int uc), (.int 4), (.ref b)])) := fun tq kq => G586 tq (by
    refine XS.ifYes X585.here hx rfl (pc0 := 3) (pc' := 28) rfl (hb hby d27_3) rfl (by decide) (by decide) (by decide) ?_
    refine XS.iloadN X585.here hx rfl (hb hby d27_28) rfl ?_
    refine XS.iconst X585.here hx rfl (hb hby d27_29) ?_
    refine XS.ishl X585.here hx rfl (hb hby d27_30) rfl ?_
    show Steps p.tables e below (T585.setTop (mkF m 31 #[.val (.ref b), .val (.int 2), .val (.int uc)] [(.int ((2 : Int32) <<< ((1 : Int32) &&& 31)))])) _
    rw [show ((2 : Int32) <<< ((1 : Int32) &&& 31)) = (4 : Int32) from (by decide)]
    show Steps p.tables e below (T585.setTop (mkF m 31 #[.val (.ref b), .val (.int 2), .val (.int uc)] [(.int 4)])) _
    refine XS.istoreN X585.here hx rfl (hb hby d27_31) rfl (l' := #[.val (.ref b), .val (.int 4), .val (.int uc)]) rfl ?_
    refine XS.aloadN X585.here hx rfl (hb hby d27_32) rfl rfl ?_
    refine XS.iloadN X585.here hx rfl (hb hby d27_33) rfl ?_
    refine XS.iinc X585.here hx rfl (hb hby d27_34) rfl (l' := #[.val (.ref b), .val (.int ((4 : Int32) + (1 : Int32))), .val (.int uc)]) rfl ?_
    show Steps p.tables e below (T585.setTop (mkF m 37 #[.val (.ref b), .val (.int ((4 : Int32) + (1 : Int32))), .val (.int uc)] [(.int 4), (.ref b)])) _
    rw [show ((4 : Int32) + (1 : Int32)) = (5 : Int32) from (by decide : ((4 : Int32) + (1 : Int32)) = (5 : Int32))]
    show Steps p.tables e below (T585.setTop (mkF m 37 #[.val (.ref b), .val (.int 5), .val (.int uc)] [(.int 4), (.ref b)])) _
    refine XS.iloadN X585.here hx rfl (hb hby d27_37) rfl ?_
    exact kq)
  obtain ⟨T588, X588, e588, st588⟩ := getS2 X585 hx hZ hown (host := "") (Or.inl (wd hw 116 rfl)) Via.refl e585 (hHI.ext hold.2) (g := (mkF m 38 #[.val (.ref b), .val (.int 5), .val (.int uc)] [(.int uc), (.int 4), (.ref b)])) rfl (hb hby d27_38)
  have G589 : Go p e below A0 (T588.setTop (mkF m 41 #[.val (.ref b), .val (.int 5), .val (.int uc)] [(.int 0), (.int uc), (.int 4), (.ref b)])) := fun tq kq => G587 tq (st588 _ kq)
  have G590 : Go p e below A0 (T588.setTop (mkF m 43 #[.val (.ref b), .val (.int 5), .val (.int uc)] [(.int (own_lo uc)), (.int 4), (.ref b)])) := fun tq kq => G589 tq (by
    refine XS.ishr X588.here hx rfl (hb hby d27_41) rfl ?_
    refine XS.i2b X588.here hx rfl (hb hby d27_42) rfl ?_
    show Steps p.tables e below (T588.setTop (mkF m 43 #[.val (.ref b), .val (.int 5), .val (.int uc)] [(.int (uc >>> ((0 : Int32) &&& 31)).toInt8.toInt32), (.int 4), (.ref b)])) _
    rw [show (uc >>> ((0 : Int32) &&& 31)).toInt8.toInt32 = (own_lo uc) from rfl]
    show Steps p.tables e below (T588.setTop (mkF m 43 #[.val (.ref b), .val (.int 5), .val (.int uc)] [(.int (own_lo uc)), (.int 4), (.ref b)])) _
    exact kq)
  obtain ⟨cl591, Ar591, q591, S591, M591, H591, Gf591⟩ := id Ab
  have hi592 : ¬ ((4 : Int32) < 0 ∨ cl591.slots.size ≤ ((4 : Int32)).toNatClampNeg) := (inb_of S591 ⟨by decide, by decide⟩)
  obtain ⟨T593, h593, X593, e593, W593, st593⟩ := stB X588 hx hZ e588 Ar591 (j := (4 : Int32)) hi592 (g := (mkF m 43 #[.val (.ref b), .val (.int 5), .val (.int uc)] [(.int (own_lo uc)), (.int 4), (.ref b)])) rfl rfl (hb hby d27_43)
  rw [show nar .byte (own_lo uc) = (own_lo uc) from own_loN _] at W593
  have N593 := Fr.snoc X593 N0 gb
  have V593 := Arv.set Ar591 q591 S591 M591 H591 Gf591 (own_loF _) W593 4 rfl (Nat.le_of_ble_eq_true rfl)
  have V593' : Arv Z h593 b kb .byte (6 : Int32) [(.int e0_), (.int e1_), (.int e2_), (.int e3_), (.int (own_lo uc)), (.int e5_)] (.int 0) := by simp only [List.set_cons_succ, List.set_cons_zero] at V593; exact V593
  have G594 : Go p e below A0 (T593.setTop (mkF m 44 #[.val (.ref b), .val (.int 5), .val (.int uc)] [])) := fun tq kq => G590 tq (st593 _ kq)
  have G595 : Go p e below A0 (T593.setTop (mkF m 47 #[.val (.ref b), .val (.int 5), .val (.int uc)] [(.int uc), (.int 5), (.ref b)])) := fun tq kq => G594 tq (by
    refine XS.aloadN X593.here hx rfl (hb hby d27_44) rfl rfl ?_
    refine XS.iloadN X593.here hx rfl (hb hby d27_45) rfl ?_
    refine XS.iloadN X593.here hx rfl (hb hby d27_46) rfl ?_
    exact kq)
  obtain ⟨T596, X596, e596, st596⟩ := getS2 X593 hx hZ hown (host := "") (Or.inl (wd hw 117 rfl)) Via.refl e593 (hLO.ext (hold.wr W593 gb).2) (g := (mkF m 47 #[.val (.ref b), .val (.int 5), .val (.int uc)] [(.int uc), (.int 5), (.ref b)])) rfl (hb hby d27_47)
  have G597 : Go p e below A0 (T596.setTop (mkF m 50 #[.val (.ref b), .val (.int 5), .val (.int uc)] [(.int 8), (.int uc), (.int 5), (.ref b)])) := fun tq kq => G595 tq (st596 _ kq)
  have G598 : Go p e below A0 (T596.setTop (mkF m 52 #[.val (.ref b), .val (.int 5), .val (.int uc)] [(.int (own_hi uc)), (.int 5), (.ref b)])) := fun tq kq => G597 tq (by
    refine XS.ishr X596.here hx rfl (hb hby d27_50) rfl ?_
    refine XS.i2b X596.here hx rfl (hb hby d27_51) rfl ?_
    show Steps p.tables e below (T596.setTop (mkF m 52 #[.val (.ref b), .val (.int 5), .val (.int uc)] [(.int (uc >>> ((8 : Int32) &&& 31)).toInt8.toInt32), (.int 5), (.ref b)])) _
    rw [show (uc >>> ((8 : Int32) &&& 31)).toInt8.toInt32 = (own_hi uc) from rfl]
    show Steps p.tables e below (T596.setTop (mkF m 52 #[.val (.ref b), .val (.int 5), .val (.int uc)] [(.int (own_hi uc)), (.int 5), (.ref b)])) _
    exact kq)
  obtain ⟨cl599, Ar599, q599, S599, M599, H599, Gf599⟩ := id V593'
  have hi600 : ¬ ((5 : Int32) < 0 ∨ cl599.slots.size ≤ ((5 : Int32)).toNatClampNeg) := (inb_of S599 ⟨by decide, by decide⟩)
  obtain ⟨T601, h601, X601, e601, W601, st601⟩ := stB X596 hx hZ e596 Ar599 (j := (5 : Int32)) hi600 (g := (mkF m 52 #[.val (.ref b), .val (.int 5), .val (.int uc)] [(.int (own_hi uc)), (.int 5), (.ref b)])) rfl rfl (hb hby d27_52)
  rw [show nar .byte (own_hi uc) = (own_hi uc) from own_hiN _] at W601
  have N601 := Fr.snoc X601 N593 gb
  have V601 := Arv.set Ar599 q599 S599 M599 H599 Gf599 (own_hiF _) W601 5 rfl (Nat.le_of_ble_eq_true rfl)
  have V601' : Arv Z h601 b kb .byte (6 : Int32) [(.int e0_), (.int e1_), (.int e2_), (.int e3_), (.int (own_lo uc)), (.int (own_hi uc))] (.int 0) := by simp only [List.set_cons_succ, List.set_cons_zero] at V601; exact V601
  have G602 : Go p e below A0 (T601.setTop (mkF m 53 #[.val (.ref b), .val (.int 5), .val (.int uc)] [])) := fun tq kq => G598 tq (st601 _ kq)
  obtain ⟨fs, hr, hrun, hended, hW, hsame⟩ := X601.leave (v := none) (fun _ => rfl)
  refine ⟨_, _, (by rw [← hA0]; exact G602 _ (X601.returnOut hx Bd.returns (hb hby d27_53) hr)), hrun, hended, _, _, rfl, ?_, ⟨_, rfl⟩, hW, hsame.mono (by decide) (by decide)⟩
  show Qpu32 Z b kb e0_ e1_ e2_ e3_ e4_ e5_ uc h0 n0 _ T601.heap _
  rw [e601]
  exact ⟨rfl, N601, (((Keep.refl h0 [b]).wr W593 (Or.inl (List.mem_of_getElem? (i := 0) rfl))).wr W601 (Or.inl (List.mem_of_getElem? (i := 0) rfl))), V601'⟩
set_option maxRecDepth 65536 in
set_option maxHeartbeats 40000000 in
theorem rmNL2 (l : Launch) (Z : State) (a0 : Array Value) (hw : ∀ d ∈ tables_1, d.before a0 Z = true) (ws : List Jvm.Cond)  (h0 : Heap) (n0 : Nat) (Z0 : n0 ≤ h0.size) :
    MetFree l (⟨"java/lang/StringUTF16", "newBytesLength", "(I)I"⟩ : MethodName) (head1 (Jvm.Cond.code (⟨"java/lang/StringUTF16", "newBytesLength", "(I)I"⟩ : MethodName) jdk_52_method_3_code 1 (some .int) :: ws) (Rm 0 0 0 0)) (fun aa UU => aa = #[(.int 2)] ∧ Z.Warmed39 UU.vm ∧ UU.heap = h0) (fun _ _ _ _ _ => True) (fun _ UU oo U' => ∃ v L, oo = .returned v ∧ Qr (.int 4) h0 n0 v U'.heap L ∧ FrameEnd UU oo U' L (Rm 0 0 0 0).cells (Rm 0 0 0 0).slots) := by
  refine MetFree.of_bodySF (plainFor_of_name pn_2) hisR ?_
  intro p e s m args below meth c s₁ Bd hml0 hP hK
  obtain ⟨rfl, hZ, hh⟩ := hP
  have hx := Bd.exec
  have hby := Bd.bytes
  have hml : c.maxLocals = 1 := hml0
  have hown : s.vm.findClass "java/lang/StringUTF16" = some m.cls := findClass_of_methodNamed Bd.named
  have hnm := (name_of_methodNamed Bd.named Bd.method).1
  have X0 : Stand p l e (Rm 0 0 0 0) s m #[(.int 2)] below meth c s₁ [] 0 0 := Stand.of_body Bd
  have e0 : s₁.heap = h0 := by rw [← hh, Bd.state]; rfl
  have N0 := Fr.nil n0
  obtain ⟨A0, hA0⟩ : ∃ A, A = s₁.setTop (entryFrame m #[(.int 2)] 1) := ⟨_, rfl⟩
  have G0 : Go p e below A0 (s₁.setTop (mkF m 0 #[.val (.int 2)] [])) := fun tq kq => by rw [hA0]; exact castTop (ef_rmNL2 m (2 : Int32)) kq
  have G603 : Go p e below A0 (s₁.setTop (mkF m 58 #[.val (.int 2)] [(.int 4)])) := fun tq kq => G0 tq (by
    refine XS.iloadN X0.here hx rfl (hb hby d26_0) rfl ?_
    refine XS.ifYes X0.here hx rfl (pc0 := 1) (pc' := 12) rfl (hb hby d26_1) rfl (by decide) (by decide) (by decide) ?_
    refine XS.iloadN X0.here hx rfl (hb hby d26_12) rfl ?_
    refine X0.ldcInt hx hown (mvT hZ (wd hw 111 rfl)) (g := (mkF m 13 #[.val (.int 2)] [(.int 2)])) rfl (hb hby d26_13) _ ?_
    refine XS.icmpYes X0.here hx rfl (pc0 := 15) (pc' := 55) rfl (hb hby d26_15) rfl (by decide) (by decide) (by decide) ?_
    refine XS.iloadN X0.here hx rfl (hb hby d26_55) rfl ?_
    refine XS.iconst X0.here hx rfl (hb hby d26_56) ?_
    refine XS.ishl X0.here hx rfl (hb hby d26_57) rfl ?_
    show Steps p.tables e below (s₁.setTop (mkF m 58 #[.val (.int 2)] [(.int ((2 : Int32) <<< ((1 : Int32) &&& 31)))])) _
    rw [show ((2 : Int32) <<< ((1 : Int32) &&& 31)) = (4 : Int32) from (by decide)]
    show Steps p.tables e below (s₁.setTop (mkF m 58 #[.val (.int 2)] [(.int 4)])) _
    exact kq)
  obtain ⟨fs, hr, hrun, hended, hW, hsame⟩ := X0.leave (v := some (.int 4)) (fun h => by rw [Bd.returns] at h; cases h)
  refine ⟨_, _, (by rw [← hA0]; exact G603 _ (retOut X0 hx (t := .int) Bd.returns rfl (Or.inl ⟨rfl, Or.inl rfl, _, rfl⟩) (hb hby d26_58) hr)), hrun, hended, _, _, rfl, ?_, ⟨_, rfl⟩, hW, hsame.mono (by decide) (by decide)⟩
  exact ⟨rfl, N0, e0⟩
set_option maxRecDepth 65536 in
set_option maxHeartbeats 40000000 in
theorem rmNL3 (l : Launch) (Z : State) (a0 : Array Value) (hw : ∀ d ∈ tables_1, d.before a0 Z = true) (ws : List Jvm.Cond)  (h0 : Heap) (n0 : Nat) (Z0 : n0 ≤ h0.size) :
    MetFree l (⟨"java/lang/StringUTF16", "newBytesLength", "(I)I"⟩ : MethodName) (head1 (Jvm.Cond.code (⟨"java/lang/StringUTF16", "newBytesLength", "(I)I"⟩ : MethodName) jdk_52_method_3_code 1 (some .int) :: ws) (Rm 0 0 0 0)) (fun aa UU => aa = #[(.int 3)] ∧ Z.Warmed39 UU.vm ∧ UU.heap = h0) (fun _ _ _ _ _ => True) (fun _ UU oo U' => ∃ v L, oo = .returned v ∧ Qr (.int 6) h0 n0 v U'.heap L ∧ FrameEnd UU oo U' L (Rm 0 0 0 0).cells (Rm 0 0 0 0).slots) := by
  refine MetFree.of_bodySF (plainFor_of_name pn_2) hisR ?_
  intro p e s m args below meth c s₁ Bd hml0 hP hK
  obtain ⟨rfl, hZ, hh⟩ := hP
  have hx := Bd.exec
  have hby := Bd.bytes
  have hml : c.maxLocals = 1 := hml0
  have hown : s.vm.findClass "java/lang/StringUTF16" = some m.cls := findClass_of_methodNamed Bd.named
  have hnm := (name_of_methodNamed Bd.named Bd.method).1
  have X0 : Stand p l e (Rm 0 0 0 0) s m #[(.int 3)] below meth c s₁ [] 0 0 := Stand.of_body Bd
  have e0 : s₁.heap = h0 := by rw [← hh, Bd.state]; rfl
  have N0 := Fr.nil n0
  obtain ⟨A0, hA0⟩ : ∃ A, A = s₁.setTop (entryFrame m #[(.int 3)] 1) := ⟨_, rfl⟩
  have G0 : Go p e below A0 (s₁.setTop (mkF m 0 #[.val (.int 3)] [])) := fun tq kq => by rw [hA0]; exact castTop (ef_rmNL3 m (3 : Int32)) kq
  have G604 : Go p e below A0 (s₁.setTop (mkF m 58 #[.val (.int 3)] [(.int 6)])) := fun tq kq => G0 tq (by
    refine XS.iloadN X0.here hx rfl (hb hby d26_0) rfl ?_
    refine XS.ifYes X0.here hx rfl (pc0 := 1) (pc' := 12) rfl (hb hby d26_1) rfl (by decide) (by decide) (by decide) ?_
    refine XS.iloadN X0.here hx rfl (hb hby d26_12) rfl ?_
    refine X0.ldcInt hx hown (mvT hZ (wd hw 111 rfl)) (g := (mkF m 13 #[.val (.int 3)] [(.int 3)])) rfl (hb hby d26_13) _ ?_
    refine XS.icmpYes X0.here hx rfl (pc0 := 15) (pc' := 55) rfl (hb hby d26_15) rfl (by decide) (by decide) (by decide) ?_
    refine XS.iloadN X0.here hx rfl (hb hby d26_55) rfl ?_
    refine XS.iconst X0.here hx rfl (hb hby d26_56) ?_
    refine XS.ishl X0.here hx rfl (hb hby d26_57) rfl ?_
    show Steps p.tables e below (s₁.setTop (mkF m 58 #[.val (.int 3)] [(.int ((3 : Int32) <<< ((1 : Int32) &&& 31)))])) _
    rw [show ((3 : Int32) <<< ((1 : Int32) &&& 31)) = (6 : Int32) from (by decide)]
    show Steps p.tables e below (s₁.setTop (mkF m 58 #[.val (.int 3)] [(.int 6)])) _
    exact kq)
  obtain ⟨fs, hr, hrun, hended, hW, hsame⟩ := X0.leave (v := some (.int 6)) (fun h => by rw [Bd.returns] at h; cases h)
  refine ⟨_, _, (by rw [← hA0]; exact G604 _ (retOut X0 hx (t := .int) Bd.returns rfl (Or.inl ⟨rfl, Or.inl rfl, _, rfl⟩) (hb hby d26_58) hr)), hrun, hended, _, _, rfl, ?_, ⟨_, rfl⟩, hW, hsame.mono (by decide) (by decide)⟩
  exact ⟨rfl, N0, e0⟩
set_option maxRecDepth 65536 in
set_option maxHeartbeats 40000000 in
theorem rmNF2 (l : Launch) (Z : State) (a0 : Array Value) (hw : ∀ d ∈ tables_1, d.before a0 Z = true) (ws : List Jvm.Cond)  (h0 : Heap) (n0 : Nat) (Z0 : n0 ≤ h0.size) :
    MetFree l (⟨"java/lang/StringUTF16", "newBytesFor", "(I)[B"⟩ : MethodName) (head1 (Jvm.Cond.code (⟨"java/lang/StringUTF16", "newBytesFor", "(I)[B"⟩ : MethodName) jdk_52_method_2_code 1 (some (.array .byte)) :: ws) (Rm 1 1 4 12)) (fun aa UU => aa = #[(.int 2)] ∧ Z.Warmed39 UU.vm ∧ UU.heap = h0) (fun _ _ _ _ _ => True) (fun _ UU oo U' => ∃ v L, oo = .returned v ∧ Qb Z (4 : Int32) [(.int 0), (.int 0), (.int 0), (.int 0)] h0 n0 v U'.heap L ∧ FrameEnd UU oo U' L (Rm 1 1 4 12).cells (Rm 1 1 4 12).slots) := by
  refine MetFree.of_bodySF (plainFor_of_name pn_2) hisR ?_
  intro p e s m args below meth c s₁ Bd hml0 hP hK
  obtain ⟨rfl, hZ, hh⟩ := hP
  have hx := Bd.exec
  have hby := Bd.bytes
  have hml : c.maxLocals = 1 := hml0
  have hown : s.vm.findClass "java/lang/StringUTF16" = some m.cls := findClass_of_methodNamed Bd.named
  have hnm := (name_of_methodNamed Bd.named Bd.method).1
  have X0 : Stand p l e (Rm 1 1 4 12) s m #[(.int 2)] below meth c s₁ [] 0 0 := Stand.of_body Bd
  have e0 : s₁.heap = h0 := by rw [← hh, Bd.state]; rfl
  have N0 := Fr.nil n0
  obtain ⟨A0, hA0⟩ : ∃ A, A = s₁.setTop (entryFrame m #[(.int 2)] 1) := ⟨_, rfl⟩
  have G0 : Go p e below A0 (s₁.setTop (mkF m 0 #[.val (.int 2)] [])) := fun tq kq => by rw [hA0]; exact castTop (ef_rmNF2 m (2 : Int32)) kq
  have G605 : Go p e below A0 (s₁.setTop (mkF m 1 #[.val (.int 2)] [(.int 2)])) := fun tq kq => G0 tq (by
    refine XS.iloadN X0.here hx rfl (hb hby d25_0) rfl ?_
    exact kq)
  obtain ⟨_, _, ⟨T606, L606, k606, n606⟩, -, X606, ⟨Lc606, hQ606, l606, y606, z606⟩, st606⟩ := Jvm.LawKit.callS X0 hx (y := (⟨"java/lang/StringUTF16", "newBytesLength", "(I)I"⟩ : MethodName)) hown (mvT hZ (wd hw 108 rfl)) (mvT hZ (wd hw 109 rfl)) (mvT hZ (wd hw 40 rfl)) (mvT hZ (wd hw 110 rfl)) (by decide) (backOf (W := 0) (rmNL2 l Z a0 hw [] h0 n0 Z0) hZ (wd hw 110 rfl) (wd hw 40 rfl) (by decide) (by decide)) (g := (mkF m 1 #[.val (.int 2)] [(.int 2)])) rfl (by rw [hml]; rfl) (argsL := [(.int 2)]) (rest := []) (lenOf pd_10 rfl) rfl (by show 2 * 0 + _ ≤ _; exact Nat.le_of_eq rfl) (hb hby d25_1) (fun _ _ => ⟨rfl, e0, (by decide : 0 + 0 ≤ _), (by decide : 0 + 0 ≤ _)⟩)
  dsimp only [Pt.U, Pt.locs, Pt.cells, Pt.slots] at X606 l606 y606 z606 st606 hQ606
  obtain rfl : k606 = 0 := y606
  obtain rfl : n606 = 0 := z606
  obtain ⟨rfl, N606q, e606⟩ := hQ606
  have N606 : Fr n0 L606 := by rw [l606]; exact Fr.app N0 N606q
  have G607 : Go p e below A0 (T606.setTop (mkF m 4 #[.val (.int 2)] [(.int 4)])) := fun tq kq => G605 tq (st606 _ kq)
  obtain ⟨T608, h608, k608, X608, e608, E608, A608, st608⟩ := newP X606 hx hZ (wd hw 21 rfl) e606 (g := (mkF m 4 #[.val (.int 2)] [(.int 4)])) rfl (hb hby d25_4) rfl (by decide) (cap := 4) (by decide) (by decide) (by decide) (by decide)
  obtain ⟨b608, g608⟩ : ∃ z, z = h0.size := ⟨_, rfl⟩
  rw [← g608] at A608 st608
  have sz_b608 : h0.size ≤ b608 := Nat.le_trans (Nat.le_refl h0.size) (Nat.le_of_eq g608.symm)
  have g_b608 : n0 ≤ b608 := Nat.le_trans Z0 (Nat.le_of_eq g608.symm)
  have V608 : Arv Z h608 b608 k608 .byte (4 : Int32) [(.int 0), (.int 0), (.int 0), (.int 0)] (.int 0) := (Arv.new A608 (by decide)).pad (pad_rep [] (.int 0) 4)
  have G609 : Go p e below A0 (T608.setTop (mkF m 6 #[.val (.int 2)] [(.ref b608)])) := fun tq kq => G607 tq (st608 _ kq)
  obtain ⟨fs, hr, hrun, hended, hW, hsame⟩ := X608.leave (v := some (.ref b608)) (fun h => by rw [Bd.returns] at h; cases h)
  refine ⟨_, _, (by rw [← hA0]; exact G609 _ (retOut X608 hx (t := (.array .byte)) Bd.returns rfl (Or.inr (Or.inr (Or.inr (Or.inr ⟨rfl, rfl, rfl⟩)))) (hb hby d25_6) hr)), hrun, hended, _, _, rfl, ?_, ⟨_, rfl⟩, hW, hsame.mono (by decide) (by decide)⟩
  show Qb Z (4 : Int32) [(.int 0), (.int 0), (.int 0), (.int 0)] h0 n0 _ T608.heap _
  rw [e608]
  exact ⟨b608, k608, rfl, N606, ((Keep.refl h0 []).ext E608), sz_b608, g_b608, V608⟩
set_option maxRecDepth 65536 in
set_option maxHeartbeats 40000000 in
theorem rmNF3 (l : Launch) (Z : State) (a0 : Array Value) (hw : ∀ d ∈ tables_1, d.before a0 Z = true) (ws : List Jvm.Cond)  (h0 : Heap) (n0 : Nat) (Z0 : n0 ≤ h0.size) :
    MetFree l (⟨"java/lang/StringUTF16", "newBytesFor", "(I)[B"⟩ : MethodName) (head1 (Jvm.Cond.code (⟨"java/lang/StringUTF16", "newBytesFor", "(I)[B"⟩ : MethodName) jdk_52_method_2_code 1 (some (.array .byte)) :: ws) (Rm 1 1 6 12)) (fun aa UU => aa = #[(.int 3)] ∧ Z.Warmed39 UU.vm ∧ UU.heap = h0) (fun _ _ _ _ _ => True) (fun _ UU oo U' => ∃ v L, oo = .returned v ∧ Qb Z (6 : Int32) [(.int 0), (.int 0), (.int 0), (.int 0), (.int 0), (.int 0)] h0 n0 v U'.heap L ∧ FrameEnd UU oo U' L (Rm 1 1 6 12).cells (Rm 1 1 6 12).slots) := by
  refine MetFree.of_bodySF (plainFor_of_name pn_2) hisR ?_
  intro p e s m args below meth c s₁ Bd hml0 hP hK
  obtain ⟨rfl, hZ, hh⟩ := hP
  have hx := Bd.exec
  have hby := Bd.bytes
  have hml : c.maxLocals = 1 := hml0
  have hown : s.vm.findClass "java/lang/StringUTF16" = some m.cls := findClass_of_methodNamed Bd.named
  have hnm := (name_of_methodNamed Bd.named Bd.method).1
  have X0 : Stand p l e (Rm 1 1 6 12) s m #[(.int 3)] below meth c s₁ [] 0 0 := Stand.of_body Bd
  have e0 : s₁.heap = h0 := by rw [← hh, Bd.state]; rfl
  have N0 := Fr.nil n0
  obtain ⟨A0, hA0⟩ : ∃ A, A = s₁.setTop (entryFrame m #[(.int 3)] 1) := ⟨_, rfl⟩
  have G0 : Go p e below A0 (s₁.setTop (mkF m 0 #[.val (.int 3)] [])) := fun tq kq => by rw [hA0]; exact castTop (ef_rmNF3 m (3 : Int32)) kq
  have G610 : Go p e below A0 (s₁.setTop (mkF m 1 #[.val (.int 3)] [(.int 3)])) := fun tq kq => G0 tq (by
    refine XS.iloadN X0.here hx rfl (hb hby d25_0) rfl ?_
    exact kq)
  obtain ⟨_, _, ⟨T611, L611, k611, n611⟩, -, X611, ⟨Lc611, hQ611, l611, y611, z611⟩, st611⟩ := Jvm.LawKit.callS X0 hx (y := (⟨"java/lang/StringUTF16", "newBytesLength", "(I)I"⟩ : MethodName)) hown (mvT hZ (wd hw 108 rfl)) (mvT hZ (wd hw 109 rfl)) (mvT hZ (wd hw 40 rfl)) (mvT hZ (wd hw 110 rfl)) (by decide) (backOf (W := 0) (rmNL3 l Z a0 hw [] h0 n0 Z0) hZ (wd hw 110 rfl) (wd hw 40 rfl) (by decide) (by decide)) (g := (mkF m 1 #[.val (.int 3)] [(.int 3)])) rfl (by rw [hml]; rfl) (argsL := [(.int 3)]) (rest := []) (lenOf pd_10 rfl) rfl (by show 2 * 0 + _ ≤ _; exact Nat.le_of_eq rfl) (hb hby d25_1) (fun _ _ => ⟨rfl, e0, (by decide : 0 + 0 ≤ _), (by decide : 0 + 0 ≤ _)⟩)
  dsimp only [Pt.U, Pt.locs, Pt.cells, Pt.slots] at X611 l611 y611 z611 st611 hQ611
  obtain rfl : k611 = 0 := y611
  obtain rfl : n611 = 0 := z611
  obtain ⟨rfl, N611q, e611⟩ := hQ611
  have N611 : Fr n0 L611 := by rw [l611]; exact Fr.app N0 N611q
  have G612 : Go p e below A0 (T611.setTop (mkF m 4 #[.val (.int 3)] [(.int 6)])) := fun tq kq => G610 tq (st611 _ kq)
  obtain ⟨T613, h613, k613, X613, e613, E613, A613, st613⟩ := newP X611 hx hZ (wd hw 21 rfl) e611 (g := (mkF m 4 #[.val (.int 3)] [(.int 6)])) rfl (hb hby d25_4) rfl (by decide) (cap := 6) (by decide) (by decide) (by decide) (by decide)
  obtain ⟨b613, g613⟩ : ∃ z, z = h0.size := ⟨_, rfl⟩
  rw [← g613] at A613 st613
  have sz_b613 : h0.size ≤ b613 := Nat.le_trans (Nat.le_refl h0.size) (Nat.le_of_eq g613.symm)
  have g_b613 : n0 ≤ b613 := Nat.le_trans Z0 (Nat.le_of_eq g613.symm)
  have V613 : Arv Z h613 b613 k613 .byte (6 : Int32) [(.int 0), (.int 0), (.int 0), (.int 0), (.int 0), (.int 0)] (.int 0) := (Arv.new A613 (by decide)).pad (pad_rep [] (.int 0) 6)
  have G614 : Go p e below A0 (T613.setTop (mkF m 6 #[.val (.int 3)] [(.ref b613)])) := fun tq kq => G612 tq (st613 _ kq)
  obtain ⟨fs, hr, hrun, hended, hW, hsame⟩ := X613.leave (v := some (.ref b613)) (fun h => by rw [Bd.returns] at h; cases h)
  refine ⟨_, _, (by rw [← hA0]; exact G614 _ (retOut X613 hx (t := (.array .byte)) Bd.returns rfl (Or.inr (Or.inr (Or.inr (Or.inr ⟨rfl, rfl, rfl⟩)))) (hb hby d25_6) hr)), hrun, hended, _, _, rfl, ?_, ⟨_, rfl⟩, hW, hsame.mono (by decide) (by decide)⟩
  show Qb Z (6 : Int32) [(.int 0), (.int 0), (.int 0), (.int 0), (.int 0), (.int 0)] h0 n0 _ T613.heap _
  rw [e613]
  exact ⟨b613, k613, rfl, N611, ((Keep.refl h0 []).ext E613), sz_b613, g_b613, V613⟩
set_option maxRecDepth 65536 in
set_option maxHeartbeats 40000000 in
theorem rmTB2 (l : Launch) (Z : State) (a0 : Array Value) (hw : ∀ d ∈ tables_1, d.before a0 Z = true) (ws : List Jvm.Cond) (tx : Addr) (kt : ClassId) (u0 u1 : Int32) (cs : Int32) (fo : Value) (h0 : Heap) (n0 : Nat) (Z0 : n0 ≤ h0.size) (At : Arv Z h0 tx kt .char (2 : Int32) [(.int u0), (.int u1)] (.int 0)) (ru0 : own_R u0) (ru1 : own_R u1) (hCS : Sta Z Z.heap "java/lang/String" "COMPACT_STRINGS" "Z" (.int cs)) (hcs : ¬ cs = (0 : Int32)) (hSF : Sta Z Z.heap "jdk/internal/util/Preconditions" "SIOOBE_FORMATTER" "Ljava/util/function/BiFunction;" fo) (hfo : fo.isRef = true) (hAD : Sta Z Z.heap "java/lang/StringUTF16" "$assertionsDisabled" "Z" (.int 1)) (hHI : Sta Z Z.heap "java/lang/StringUTF16" "HI_BYTE_SHIFT" "I" (.int 0)) (hLO : Sta Z Z.heap "java/lang/StringUTF16" "LO_BYTE_SHIFT" "I" (.int 8)) (hold : Old Z n0 h0) :
    MetFree l (⟨"java/lang/StringUTF16", "toBytes", "([CII)[B"⟩ : MethodName) (head1 (Jvm.Cond.code (⟨"java/lang/StringUTF16", "toBytes", "([CII)[B"⟩ : MethodName) jdk_52_method_14_code 5 (some (.array .byte)) :: ws) (Rm 2 1 4 24)) (fun aa UU => aa = #[(.ref tx), (.int 0), (.int 2)] ∧ Z.Warmed39 UU.vm ∧ UU.heap = h0) (fun _ _ _ _ _ => True) (fun _ UU oo U' => ∃ v L, oo = .returned v ∧ Qb Z (4 : Int32) [(.int (own_lo u0)), (.int (own_hi u0)), (.int (own_lo u1)), (.int (own_hi u1))] h0 n0 v U'.heap L ∧ FrameEnd UU oo U' L (Rm 2 1 4 24).cells (Rm 2 1 4 24).slots) := by
  refine MetFree.of_bodySF (plainFor_of_name pn_2) hisR ?_
  intro p e s m args below meth c s₁ Bd hml0 hP hK
  obtain ⟨rfl, hZ, hh⟩ := hP
  have hx := Bd.exec
  have hby := Bd.bytes
  have hml : c.maxLocals = 5 := hml0
  have hown : s.vm.findClass "java/lang/StringUTF16" = some m.cls := findClass_of_methodNamed Bd.named
  have hnm := (name_of_methodNamed Bd.named Bd.method).1
  have X0 : Stand p l e (Rm 2 1 4 24) s m #[(.ref tx), (.int 0), (.int 2)] below meth c s₁ [] 0 0 := Stand.of_body Bd
  have e0 : s₁.heap = h0 := by rw [← hh, Bd.state]; rfl
  have N0 := Fr.nil n0
  obtain ⟨A0, hA0⟩ : ∃ A, A = s₁.setTop (entryFrame m #[(.ref tx), (.int 0), (.int 2)] 5) := ⟨_, rfl⟩
  have G0 : Go p e below A0 (s₁.setTop (mkF m 0 #[.val (.ref tx), .val (.int 0), .val (.int 2), .unset, .unset] [])) := fun tq kq => by rw [hA0]; exact castTop (ef_rmTB2 m tx (0 : Int32) (2 : Int32)) kq
  have G615 : Go p e below A0 (s₁.setTop (mkF m 1 #[.val (.ref tx), .val (.int 0), .val (.int 2), .unset, .unset] [(.int 2)])) := fun tq kq => G0 tq (by
    refine XS.iloadN X0.here hx rfl (hb hby d24_0) rfl ?_
    exact kq)
  obtain ⟨_, _, ⟨T616, L616, k616, n616⟩, -, X616, ⟨Lc616, hQ616, l616, y616, z616⟩, st616⟩ := Jvm.LawKit.callS X0 hx (y := (⟨"java/lang/StringUTF16", "newBytesFor", "(I)[B"⟩ : MethodName)) hown (mvT hZ (wd hw 105 rfl)) (mvT hZ (wd hw 106 rfl)) (mvT hZ (wd hw 40 rfl)) (mvT hZ (wd hw 107 rfl)) (by decide) (backOf (W := 0) (rmNF2 l Z a0 hw []  h0 n0 Z0 ) hZ (wd hw 107 rfl) (wd hw 40 rfl) (by decide) (by decide)) (g := (mkF m 1 #[.val (.ref tx), .val (.int 0), .val (.int 2), .unset, .unset] [(.int 2)])) rfl (by rw [hml]; rfl) (argsL := [(.int 2)]) (rest := []) (lenOf pd_11 rfl) rfl (by show 2 * 0 + _ ≤ _; exact Nat.le_of_eq rfl) (hb hby d24_1) (fun _ _ => ⟨rfl, e0, (by decide : 0 + 1 ≤ _), (by decide : 0 + 4 ≤ _)⟩)
  dsimp only [Pt.U, Pt.locs, Pt.cells, Pt.slots] at X616 l616 y616 z616 st616 hQ616
  obtain rfl : k616 = 1 := y616
  obtain rfl : n616 = 4 := z616
  obtain ⟨bb616, kk616, rfl, N616q, K616, hs616, hg616, Ab616⟩ := hQ616
  have N616 : Fr n0 L616 := by rw [l616]; exact Fr.app N0 N616q
  have lt_tx_bb616 : tx < bb616 := Nat.lt_of_lt_of_le At.lt hs616
  have sz_bb616 : h0.size ≤ bb616 := Nat.le_trans (Nat.le_refl h0.size) hs616
  have G617 : Go p e below A0 (T616.setTop (mkF m 4 #[.val (.ref tx), .val (.int 0), .val (.int 2), .unset, .unset] [(.ref bb616)])) := fun tq kq => G615 tq (st616 _ kq)
  have G618 : Go p e below A0 (T616.setTop (mkF m 19 #[.val (.ref tx), .val (.int 0), .val (.int 2), .val (.ref bb616), .val (.int 0)] [(.int 0), (.ref tx), (.int 0), (.ref bb616)])) := fun tq kq => G617 tq (by
    refine XS.astoreN X616.here hx rfl (hb hby d24_4) rfl rfl (l' := #[.val (.ref tx), .val (.int 0), .val (.int 2), .val (.ref bb616), .unset]) rfl ?_
    refine XS.iconst X616.here hx rfl (hb hby d24_5) ?_
    refine XS.istore X616.here hx rfl (hb hby d24_6) rfl (l' := #[.val (.ref tx), .val (.int 0), .val (.int 2), .val (.ref bb616), .val (.int 0)]) rfl ?_
    refine XS.iload X616.here hx rfl (hb hby d24_8) rfl ?_
    refine XS.iloadN X616.here hx rfl (hb hby d24_10) rfl ?_
    refine XS.icmpNo X616.here hx rfl (hb hby d24_11) rfl (by decide) ?_
    refine XS.aloadN X616.here hx rfl (hb hby d24_14) rfl rfl ?_
    refine XS.iload X616.here hx rfl (hb hby d24_15) rfl ?_
    refine XS.aloadN X616.here hx rfl (hb hby d24_17) rfl rfl ?_
    refine XS.iloadN X616.here hx rfl (hb hby d24_18) rfl ?_
    exact kq)
  have f619 := (At.keep K616 nin0)
  obtain ⟨cl620, Ar620, q620, S620, M620, H620, Gf620⟩ := id f619
  have hi621 : ¬ ((0 : Int32) < 0 ∨ cl620.slots.size ≤ ((0 : Int32)).toNatClampNeg) := (inb_of S620 ⟨by decide, by decide⟩)
  have G622 : Go p e below A0 (T616.setTop (mkF m 20 #[.val (.ref tx), .val (.int 0), .val (.int 2), .val (.ref bb616), .val (.int 0)] [(.int u0), (.int 0), (.ref bb616)])) := fun tq kq => G618 tq (by
    refine X616.caload hx (j := (0 : Int32)) (v := (.int u0)) Ar620.1 (State.isArrayOf_alike hZ.alike Ar620.2.1) Ar620.2.2 hi621 (H620.at hi621 rfl) (g := (mkF m 19 #[.val (.ref tx), .val (.int 0), .val (.int 2), .val (.ref bb616), .val (.int 0)] [(.int 0), (.ref tx), (.int 0), (.ref bb616)])) rfl rfl (hb hby d24_19) _ ?_
    show Steps p.tables e below (T616.setTop (mkF m 20 #[.val (.ref tx), .val (.int 0), .val (.int 2), .val (.ref bb616), .val (.int 0)] [(.int u0), (.int 0), (.ref bb616)])) _
    exact kq)
  have f624 := (Nat.le_trans Z0 K616.1)
  have f625 := (hold.keep K616 all0)
  obtain ⟨_, _, ⟨T623, L623, k623, n623⟩, -, X623, ⟨Lc623, hQ623, l623, y623, z623⟩, st623⟩ := Jvm.LawKit.callS X616 hx (y := (⟨"java/lang/StringUTF16", "putChar", "([BII)V"⟩ : MethodName)) hown (mvT hZ (wd hw 112 rfl)) (mvT hZ (wd hw 113 rfl)) (mvT hZ (wd hw 40 rfl)) (mvT hZ (wd hw 114 rfl)) (by decide) (backOf (W := 0) (rmPu20 l Z a0 hw [] bb616 kk616 (0 : Int32) (0 : Int32) (0 : Int32) (0 : Int32) u0 cs fo T616.heap n0 f624 Ab616 hg616 hCS hcs hSF hfo hAD hHI hLO f625) hZ (wd hw 114 rfl) (wd hw 40 rfl) (by decide) (by decide)) (g := (mkF m 20 #[.val (.ref tx), .val (.int 0), .val (.int 2), .val (.ref bb616), .val (.int 0)] [(.int u0), (.int 0), (.ref bb616)])) rfl (by rw [hml]; rfl) (argsL := [(.ref bb616), (.int 0), (.int u0)]) (rest := []) (lenOf pd_12 rfl) rfl (by show 2 * 0 + _ ≤ _; exact Nat.le_of_eq rfl) (hb hby d24_20) (fun _ _ => ⟨rfl, rfl, (by decide : 1 + 0 ≤ _), (by decide : 4 + 0 ≤ _)⟩)
  dsimp only [Pt.U, Pt.locs, Pt.cells, Pt.slots] at X623 l623 y623 z623 st623 hQ623
  obtain rfl : k623 = 1 := y623
  obtain rfl : n623 = 4 := z623
  obtain ⟨rfl, N623q, K623, Ab623⟩ := hQ623
  have N623 : Fr n0 L623 := by rw [l623]; exact Fr.app N616 N623q
  have G626 : Go p e below A0 (T623.setTop (mkF m 23 #[.val (.ref tx), .val (.int 0), .val (.int 2), .val (.ref bb616), .val (.int 0)] [])) := fun tq kq => G622 tq (st623 _ kq)
  have G627 : Go p e below A0 (T623.setTop (mkF m 19 #[.val (.ref tx), .val (.int 1), .val (.int 2), .val (.ref bb616), .val (.int 1)] [(.int 1), (.ref tx), (.int 1), (.ref bb616)])) := fun tq kq => G626 tq (by
    refine XS.iinc X623.here hx rfl (hb hby d24_23) rfl (l' := #[.val (.ref tx), .val (.int ((0 : Int32) + (1 : Int32))), .val (.int 2), .val (.ref bb616), .val (.int 0)]) rfl ?_
    show Steps p.tables e below (T623.setTop (mkF m 26 #[.val (.ref tx), .val (.int ((0 : Int32) + (1 : Int32))), .val (.int 2), .val (.ref bb616), .val (.int 0)] [])) _
    rw [show ((0 : Int32) + (1 : Int32)) = (1 : Int32) from (by decide : ((0 : Int32) + (1 : Int32)) = (1 : Int32))]
    show Steps p.tables e below (T623.setTop (mkF m 26 #[.val (.ref tx), .val (.int 1), .val (.int 2), .val (.ref bb616), .val (.int 0)] [])) _
    refine XS.iinc X623.here hx rfl (hb hby d24_26) rfl (l' := #[.val (.ref tx), .val (.int 1), .val (.int 2), .val (.ref bb616), .val (.int ((0 : Int32) + (1 : Int32)))]) rfl ?_
    show Steps p.tables e below (T623.setTop (mkF m 29 #[.val (.ref tx), .val (.int 1), .val (.int 2), .val (.ref bb616), .val (.int ((0 : Int32) + (1 : Int32)))] [])) _
    rw [show ((0 : Int32) + (1 : Int32)) = (1 : Int32) from (by decide : ((0 : Int32) + (1 : Int32)) = (1 : Int32))]
    show Steps p.tables e below (T623.setTop (mkF m 29 #[.val (.ref tx), .val (.int 1), .val (.int 2), .val (.ref bb616), .val (.int 1)] [])) _
    refine XS.goto X623.here hx rfl (pc0 := 29) (pc' := 8) rfl (hb hby d24_29) (by decide) (by decide) ?_
    refine XS.iload X623.here hx rfl (hb hby d24_8) rfl ?_
    refine XS.iloadN X623.here hx rfl (hb hby d24_10) rfl ?_
    refine XS.icmpNo X623.here hx rfl (hb hby d24_11) rfl (by decide) ?_
    refine XS.aloadN X623.here hx rfl (hb hby d24_14) rfl rfl ?_
    refine XS.iload X623.here hx rfl (hb hby d24_15) rfl ?_
    refine XS.aloadN X623.here hx rfl (hb hby d24_17) rfl rfl ?_
    refine XS.iloadN X623.here hx rfl (hb hby d24_18) rfl ?_
    exact kq)
  have f628 := (f619.keep K623 (ninS (Nat.ne_of_lt lt_tx_bb616) nin0))
  obtain ⟨cl629, Ar629, q629, S629, M629, H629, Gf629⟩ := id f628
  have hi630 : ¬ ((1 : Int32) < 0 ∨ cl629.slots.size ≤ ((1 : Int32)).toNatClampNeg) := (inb_of S629 ⟨by decide, by decide⟩)
  have G631 : Go p e below A0 (T623.setTop (mkF m 20 #[.val (.ref tx), .val (.int 1), .val (.int 2), .val (.ref bb616), .val (.int 1)] [(.int u1), (.int 1), (.ref bb616)])) := fun tq kq => G627 tq (by
    refine X623.caload hx (j := (1 : Int32)) (v := (.int u1)) Ar629.1 (State.isArrayOf_alike hZ.alike Ar629.2.1) Ar629.2.2 hi630 (H629.at hi630 rfl) (g := (mkF m 19 #[.val (.ref tx), .val (.int 1), .val (.int 2), .val (.ref bb616), .val (.int 1)] [(.int 1), (.ref tx), (.int 1), (.ref bb616)])) rfl rfl (hb hby d24_19) _ ?_
    show Steps p.tables e below (T623.setTop (mkF m 20 #[.val (.ref tx), .val (.int 1), .val (.int 2), .val (.ref bb616), .val (.int 1)] [(.int u1), (.int 1), (.ref bb616)])) _
    exact kq)
  have f633 := (Nat.le_trans f624 K623.1)
  have f634 := (f625.keep K623 (allS hg616 all0))
  obtain ⟨_, _, ⟨T632, L632, k632, n632⟩, -, X632, ⟨Lc632, hQ632, l632, y632, z632⟩, st632⟩ := Jvm.LawKit.callS X623 hx (y := (⟨"java/lang/StringUTF16", "putChar", "([BII)V"⟩ : MethodName)) hown (mvT hZ (wd hw 112 rfl)) (mvT hZ (wd hw 113 rfl)) (mvT hZ (wd hw 40 rfl)) (mvT hZ (wd hw 114 rfl)) (by decide) (backOf (W := 0) (rmPu21 l Z a0 hw [] bb616 kk616 (own_lo u0) (own_hi u0) (0 : Int32) (0 : Int32) u1 cs fo T623.heap n0 f633 Ab623 hg616 hCS hcs hSF hfo hAD hHI hLO f634) hZ (wd hw 114 rfl) (wd hw 40 rfl) (by decide) (by decide)) (g := (mkF m 20 #[.val (.ref tx), .val (.int 1), .val (.int 2), .val (.ref bb616), .val (.int 1)] [(.int u1), (.int 1), (.ref bb616)])) rfl (by rw [hml]; rfl) (argsL := [(.ref bb616), (.int 1), (.int u1)]) (rest := []) (lenOf pd_12 rfl) rfl (by show 2 * 0 + _ ≤ _; exact Nat.le_of_eq rfl) (hb hby d24_20) (fun _ _ => ⟨rfl, rfl, (by decide : 1 + 0 ≤ _), (by decide : 4 + 0 ≤ _)⟩)
  dsimp only [Pt.U, Pt.locs, Pt.cells, Pt.slots] at X632 l632 y632 z632 st632 hQ632
  obtain rfl : k632 = 1 := y632
  obtain rfl : n632 = 4 := z632
  obtain ⟨rfl, N632q, K632, Ab632⟩ := hQ632
  have N632 : Fr n0 L632 := by rw [l632]; exact Fr.app N623 N632q
  have G635 : Go p e below A0 (T632.setTop (mkF m 23 #[.val (.ref tx), .val (.int 1), .val (.int 2), .val (.ref bb616), .val (.int 1)] [])) := fun tq kq => G631 tq (st632 _ kq)
  have G636 : Go p e below A0 (T632.setTop (mkF m 33 #[.val (.ref tx), .val (.int 2), .val (.int 2), .val (.ref bb616), .val (.int 2)] [(.ref bb616)])) := fun tq kq => G635 tq (by
    refine XS.iinc X632.here hx rfl (hb hby d24_23) rfl (l' := #[.val (.ref tx), .val (.int ((1 : Int32) + (1 : Int32))), .val (.int 2), .val (.ref bb616), .val (.int 1)]) rfl ?_
    show Steps p.tables e below (T632.setTop (mkF m 26 #[.val (.ref tx), .val (.int ((1 : Int32) + (1 : Int32))), .val (.int 2), .val (.ref bb616), .val (.int 1)] [])) _
    rw [show ((1 : Int32) + (1 : Int32)) = (2 : Int32) from (by decide : ((1 : Int32) + (1 : Int32)) = (2 : Int32))]
    show Steps p.tables e below (T632.setTop (mkF m 26 #[.val (.ref tx), .val (.int 2), .val (.int 2), .val (.ref bb616), .val (.int 1)] [])) _
    refine XS.iinc X632.here hx rfl (hb hby d24_26) rfl (l' := #[.val (.ref tx), .val (.int 2), .val (.int 2), .val (.ref bb616), .val (.int ((1 : Int32) + (1 : Int32)))]) rfl ?_
    show Steps p.tables e below (T632.setTop (mkF m 29 #[.val (.ref tx), .val (.int 2), .val (.int 2), .val (.ref bb616), .val (.int ((1 : Int32) + (1 : Int32)))] [])) _
    rw [show ((1 : Int32) + (1 : Int32)) = (2 : Int32) from (by decide : ((1 : Int32) + (1 : Int32)) = (2 : Int32))]
    show Steps p.tables e below (T632.setTop (mkF m 29 #[.val (.ref tx), .val (.int 2), .val (.int 2), .val (.ref bb616), .val (.int 2)] [])) _
    refine XS.goto X632.here hx rfl (pc0 := 29) (pc' := 8) rfl (hb hby d24_29) (by decide) (by decide) ?_
    refine XS.iload X632.here hx rfl (hb hby d24_8) rfl ?_
    refine XS.iloadN X632.here hx rfl (hb hby d24_10) rfl ?_
    refine XS.icmpYes X632.here hx rfl (pc0 := 11) (pc' := 32) rfl (hb hby d24_11) rfl (by decide) (by decide) (by decide) ?_
    refine XS.aloadN X632.here hx rfl (hb hby d24_32) rfl rfl ?_
    exact kq)
  obtain ⟨fs, hr, hrun, hended, hW, hsame⟩ := X632.leave (v := some (.ref bb616)) (fun h => by rw [Bd.returns] at h; cases h)
  refine ⟨_, _, (by rw [← hA0]; exact G636 _ (retOut X632 hx (t := (.array .byte)) Bd.returns rfl (Or.inr (Or.inr (Or.inr (Or.inr ⟨rfl, rfl, rfl⟩)))) (hb hby d24_33) hr)), hrun, hended, _, _, rfl, ?_, ⟨_, rfl⟩, hW, hsame.mono (by decide) (by decide)⟩
  show Qb Z (4 : Int32) [(.int (own_lo u0)), (.int (own_hi u0)), (.int (own_lo u1)), (.int (own_hi u1))] h0 n0 _ T632.heap _
  exact ⟨bb616, kk616, rfl, N632, ((((Keep.refl h0 []).trans K616 all0).trans K623 (allS (P := fun x => x ∈ [] ∨ h0.size ≤ x) (Or.inr sz_bb616) all0)).trans K632 (allS (P := fun x => x ∈ [] ∨ h0.size ≤ x) (Or.inr sz_bb616) all0)), sz_bb616, hg616, Ab632⟩
set_option maxRecDepth 65536 in
set_option maxHeartbeats 40000000 in
theorem rmTB3 (l : Launch) (Z : State) (a0 : Array Value) (hw : ∀ d ∈ tables_1, d.before a0 Z = true) (ws : List Jvm.Cond) (tx : Addr) (kt : ClassId) (u0 u1 u2 : Int32) (cs : Int32) (fo : Value) (h0 : Heap) (n0 : Nat) (Z0 : n0 ≤ h0.size) (At : Arv Z h0 tx kt .char (3 : Int32) [(.int u0), (.int u1), (.int u2)] (.int 0)) (ru0 : own_R u0) (ru1 : own_R u1) (ru2 : own_R u2) (hCS : Sta Z Z.heap "java/lang/String" "COMPACT_STRINGS" "Z" (.int cs)) (hcs : ¬ cs = (0 : Int32)) (hSF : Sta Z Z.heap "jdk/internal/util/Preconditions" "SIOOBE_FORMATTER" "Ljava/util/function/BiFunction;" fo) (hfo : fo.isRef = true) (hAD : Sta Z Z.heap "java/lang/StringUTF16" "$assertionsDisabled" "Z" (.int 1)) (hHI : Sta Z Z.heap "java/lang/StringUTF16" "HI_BYTE_SHIFT" "I" (.int 0)) (hLO : Sta Z Z.heap "java/lang/StringUTF16" "LO_BYTE_SHIFT" "I" (.int 8)) (hold : Old Z n0 h0) :
    MetFree l (⟨"java/lang/StringUTF16", "toBytes", "([CII)[B"⟩ : MethodName) (head1 (Jvm.Cond.code (⟨"java/lang/StringUTF16", "toBytes", "([CII)[B"⟩ : MethodName) jdk_52_method_14_code 5 (some (.array .byte)) :: ws) (Rm 2 1 6 24)) (fun aa UU => aa = #[(.ref tx), (.int 0), (.int 3)] ∧ Z.Warmed39 UU.vm ∧ UU.heap = h0) (fun _ _ _ _ _ => True) (fun _ UU oo U' => ∃ v L, oo = .returned v ∧ Qb Z (6 : Int32) [(.int (own_lo u0)), (.int (own_hi u0)), (.int (own_lo u1)), (.int (own_hi u1)), (.int (own_lo u2)), (.int (own_hi u2))] h0 n0 v U'.heap L ∧ FrameEnd UU oo U' L (Rm 2 1 6 24).cells (Rm 2 1 6 24).slots) := by
  refine MetFree.of_bodySF (plainFor_of_name pn_2) hisR ?_
  intro p e s m args below meth c s₁ Bd hml0 hP hK
  obtain ⟨rfl, hZ, hh⟩ := hP
  have hx := Bd.exec
  have hby := Bd.bytes
  have hml : c.maxLocals = 5 := hml0
  have hown : s.vm.findClass "java/lang/StringUTF16" = some m.cls := findClass_of_methodNamed Bd.named
  have hnm := (name_of_methodNamed Bd.named Bd.method).1
  have X0 : Stand p l e (Rm 2 1 6 24) s m #[(.ref tx), (.int 0), (.int 3)] below meth c s₁ [] 0 0 := Stand.of_body Bd
  have e0 : s₁.heap = h0 := by rw [← hh, Bd.state]; rfl
  have N0 := Fr.nil n0
  obtain ⟨A0, hA0⟩ : ∃ A, A = s₁.setTop (entryFrame m #[(.ref tx), (.int 0), (.int 3)] 5) := ⟨_, rfl⟩
  have G0 : Go p e below A0 (s₁.setTop (mkF m 0 #[.val (.ref tx), .val (.int 0), .val (.int 3), .unset, .unset] [])) := fun tq kq => by rw [hA0]; exact castTop (ef_rmTB3 m tx (0 : Int32) (3 : Int32)) kq
  have G637 : Go p e below A0 (s₁.setTop (mkF m 1 #[.val (.ref tx), .val (.int 0), .val (.int 3), .unset, .unset] [(.int 3)])) := fun tq kq => G0 tq (by
    refine XS.iloadN X0.here hx rfl (hb hby d24_0) rfl ?_
    exact kq)
  obtain ⟨_, _, ⟨T638, L638, k638, n638⟩, -, X638, ⟨Lc638, hQ638, l638, y638, z638⟩, st638⟩ := Jvm.LawKit.callS X0 hx (y := (⟨"java/lang/StringUTF16", "newBytesFor", "(I)[B"⟩ : MethodName)) hown (mvT hZ (wd hw 105 rfl)) (mvT hZ (wd hw 106 rfl)) (mvT hZ (wd hw 40 rfl)) (mvT hZ (wd hw 107 rfl)) (by decide) (backOf (W := 0) (rmNF3 l Z a0 hw []  h0 n0 Z0 ) hZ (wd hw 107 rfl) (wd hw 40 rfl) (by decide) (by decide)) (g := (mkF m 1 #[.val (.ref tx), .val (.int 0), .val (.int 3), .unset, .unset] [(.int 3)])) rfl (by rw [hml]; rfl) (argsL := [(.int 3)]) (rest := []) (lenOf pd_11 rfl) rfl (by show 2 * 0 + _ ≤ _; exact Nat.le_of_eq rfl) (hb hby d24_1) (fun _ _ => ⟨rfl, e0, (by decide : 0 + 1 ≤ _), (by decide : 0 + 6 ≤ _)⟩)
  dsimp only [Pt.U, Pt.locs, Pt.cells, Pt.slots] at X638 l638 y638 z638 st638 hQ638
  obtain rfl : k638 = 1 := y638
  obtain rfl : n638 = 6 := z638
  obtain ⟨bb638, kk638, rfl, N638q, K638, hs638, hg638, Ab638⟩ := hQ638
  have N638 : Fr n0 L638 := by rw [l638]; exact Fr.app N0 N638q
  have lt_tx_bb638 : tx < bb638 := Nat.lt_of_lt_of_le At.lt hs638
  have sz_bb638 : h0.size ≤ bb638 := Nat.le_trans (Nat.le_refl h0.size) hs638
  have G639 : Go p e below A0 (T638.setTop (mkF m 4 #[.val (.ref tx), .val (.int 0), .val (.int 3), .unset, .unset] [(.ref bb638)])) := fun tq kq => G637 tq (st638 _ kq)
  have G640 : Go p e below A0 (T638.setTop (mkF m 19 #[.val (.ref tx), .val (.int 0), .val (.int 3), .val (.ref bb638), .val (.int 0)] [(.int 0), (.ref tx), (.int 0), (.ref bb638)])) := fun tq kq => G639 tq (by
    refine XS.astoreN X638.here hx rfl (hb hby d24_4) rfl rfl (l' := #[.val (.ref tx), .val (.int 0), .val (.int 3), .val (.ref bb638), .unset]) rfl ?_
    refine XS.iconst X638.here hx rfl (hb hby d24_5) ?_
    refine XS.istore X638.here hx rfl (hb hby d24_6) rfl (l' := #[.val (.ref tx), .val (.int 0), .val (.int 3), .val (.ref bb638), .val (.int 0)]) rfl ?_
    refine XS.iload X638.here hx rfl (hb hby d24_8) rfl ?_
    refine XS.iloadN X638.here hx rfl (hb hby d24_10) rfl ?_
    refine XS.icmpNo X638.here hx rfl (hb hby d24_11) rfl (by decide) ?_
    refine XS.aloadN X638.here hx rfl (hb hby d24_14) rfl rfl ?_
    refine XS.iload X638.here hx rfl (hb hby d24_15) rfl ?_
    refine XS.aloadN X638.here hx rfl (hb hby d24_17) rfl rfl ?_
    refine XS.iloadN X638.here hx rfl (hb hby d24_18) rfl ?_
    exact kq)
  have f641 := (At.keep K638 nin0)
  obtain ⟨cl642, Ar642, q642, S642, M642, H642, Gf642⟩ := id f641
  have hi643 : ¬ ((0 : Int32) < 0 ∨ cl642.slots.size ≤ ((0 : Int32)).toNatClampNeg) := (inb_of S642 ⟨by decide, by decide⟩)
  have G644 : Go p e below A0 (T638.setTop (mkF m 20 #[.val (.ref tx), .val (.int 0), .val (.int 3), .val (.ref bb638), .val (.int 0)] [(.int u0), (.int 0), (.ref bb638)])) := fun tq kq => G640 tq (by
    refine X638.caload hx (j := (0 : Int32)) (v := (.int u0)) Ar642.1 (State.isArrayOf_alike hZ.alike Ar642.2.1) Ar642.2.2 hi643 (H642.at hi643 rfl) (g := (mkF m 19 #[.val (.ref tx), .val (.int 0), .val (.int 3), .val (.ref bb638), .val (.int 0)] [(.int 0), (.ref tx), (.int 0), (.ref bb638)])) rfl rfl (hb hby d24_19) _ ?_
    show Steps p.tables e below (T638.setTop (mkF m 20 #[.val (.ref tx), .val (.int 0), .val (.int 3), .val (.ref bb638), .val (.int 0)] [(.int u0), (.int 0), (.ref bb638)])) _
    exact kq)
  have f646 := (Nat.le_trans Z0 K638.1)
  have f647 := (hold.keep K638 all0)
  obtain ⟨_, _, ⟨T645, L645, k645, n645⟩, -, X645, ⟨Lc645, hQ645, l645, y645, z645⟩, st645⟩ := Jvm.LawKit.callS X638 hx (y := (⟨"java/lang/StringUTF16", "putChar", "([BII)V"⟩ : MethodName)) hown (mvT hZ (wd hw 112 rfl)) (mvT hZ (wd hw 113 rfl)) (mvT hZ (wd hw 40 rfl)) (mvT hZ (wd hw 114 rfl)) (by decide) (backOf (W := 0) (rmPu30 l Z a0 hw [] bb638 kk638 (0 : Int32) (0 : Int32) (0 : Int32) (0 : Int32) (0 : Int32) (0 : Int32) u0 cs fo T638.heap n0 f646 Ab638 hg638 hCS hcs hSF hfo hAD hHI hLO f647) hZ (wd hw 114 rfl) (wd hw 40 rfl) (by decide) (by decide)) (g := (mkF m 20 #[.val (.ref tx), .val (.int 0), .val (.int 3), .val (.ref bb638), .val (.int 0)] [(.int u0), (.int 0), (.ref bb638)])) rfl (by rw [hml]; rfl) (argsL := [(.ref bb638), (.int 0), (.int u0)]) (rest := []) (lenOf pd_12 rfl) rfl (by show 2 * 0 + _ ≤ _; exact Nat.le_of_eq rfl) (hb hby d24_20) (fun _ _ => ⟨rfl, rfl, (by decide : 1 + 0 ≤ _), (by decide : 6 + 0 ≤ _)⟩)
  dsimp only [Pt.U, Pt.locs, Pt.cells, Pt.slots] at X645 l645 y645 z645 st645 hQ645
  obtain rfl : k645 = 1 := y645
  obtain rfl : n645 = 6 := z645
  obtain ⟨rfl, N645q, K645, Ab645⟩ := hQ645
  have N645 : Fr n0 L645 := by rw [l645]; exact Fr.app N638 N645q
  have G648 : Go p e below A0 (T645.setTop (mkF m 23 #[.val (.ref tx), .val (.int 0), .val (.int 3), .val (.ref bb638), .val (.int 0)] [])) := fun tq kq => G644 tq (st645 _ kq)
  have G649 : Go p e below A0 (T645.setTop (mkF m 19 #[.val (.ref tx), .val (.int 1), .val (.int 3), .val (.ref bb638), .val (.int 1)] [(.int 1), (.ref tx), (.int 1), (.ref bb638)])) := fun tq kq => G648 tq (by
    refine XS.iinc X645.here hx rfl (hb hby d24_23) rfl (l' := #[.val (.ref tx), .val (.int ((0 : Int32) + (1 : Int32))), .val (.int 3), .val (.ref bb638), .val (.int 0)]) rfl ?_
    show Steps p.tables e below (T645.setTop (mkF m 26 #[.val (.ref tx), .val (.int ((0 : Int32) + (1 : Int32))), .val (.int 3), .val (.ref bb638), .val (.int 0)] [])) _
    rw [show ((0 : Int32) + (1 : Int32)) = (1 : Int32) from (by decide : ((0 : Int32) + (1 : Int32)) = (1 : Int32))]
    show Steps p.tables e below (T645.setTop (mkF m 26 #[.val (.ref tx), .val (.int 1), .val (.int 3), .val (.ref bb638), .val (.int 0)] [])) _
    refine XS.iinc X645.here hx rfl (hb hby d24_26) rfl (l' := #[.val (.ref tx), .val (.int 1), .val (.int 3), .val (.ref bb638), .val (.int ((0 : Int32) + (1 : Int32)))]) rfl ?_
    show Steps p.tables e below (T645.setTop (mkF m 29 #[.val (.ref tx), .val (.int 1), .val (.int 3), .val (.ref bb638), .val (.int ((0 : Int32) + (1 : Int32)))] [])) _
    rw [show ((0 : Int32) + (1 : Int32)) = (1 : Int32) from (by decide : ((0 : Int32) + (1 : Int32)) = (1 : Int32))]
    show Steps p.tables e below (T645.setTop (mkF m 29 #[.val (.ref tx), .val (.int 1), .val (.int 3), .val (.ref bb638), .val (.int 1)] [])) _
    refine XS.goto X645.here hx rfl (pc0 := 29) (pc' := 8) rfl (hb hby d24_29) (by decide) (by decide) ?_
    refine XS.iload X645.here hx rfl (hb hby d24_8) rfl ?_
    refine XS.iloadN X645.here hx rfl (hb hby d24_10) rfl ?_
    refine XS.icmpNo X645.here hx rfl (hb hby d24_11) rfl (by decide) ?_
    refine XS.aloadN X645.here hx rfl (hb hby d24_14) rfl rfl ?_
    refine XS.iload X645.here hx rfl (hb hby d24_15) rfl ?_
    refine XS.aloadN X645.here hx rfl (hb hby d24_17) rfl rfl ?_
    refine XS.iloadN X645.here hx rfl (hb hby d24_18) rfl ?_
    exact kq)
  have f650 := (f641.keep K645 (ninS (Nat.ne_of_lt lt_tx_bb638) nin0))
  obtain ⟨cl651, Ar651, q651, S651, M651, H651, Gf651⟩ := id f650
  have hi652 : ¬ ((1 : Int32) < 0 ∨ cl651.slots.size ≤ ((1 : Int32)).toNatClampNeg) := (inb_of S651 ⟨by decide, by decide⟩)
  have G653 : Go p e below A0 (T645.setTop (mkF m 20 #[.val (.ref tx), .val (.int 1), .val (.int 3), .val (.ref bb638), .val (.int 1)] [(.int u1), (.int 1), (.ref bb638)])) := fun tq kq => G649 tq (by
    refine X645.caload hx (j := (1 : Int32)) (v := (.int u1)) Ar651.1 (State.isArrayOf_alike hZ.alike Ar651.2.1) Ar651.2.2 hi652 (H651.at hi652 rfl) (g := (mkF m 19 #[.val (.ref tx), .val (.int 1), .val (.int 3), .val (.ref bb638), .val (.int 1)] [(.int 1), (.ref tx), (.int 1), (.ref bb638)])) rfl rfl (hb hby d24_19) _ ?_
    show Steps p.tables e below (T645.setTop (mkF m 20 #[.val (.ref tx), .val (.int 1), .val (.int 3), .val (.ref bb638), .val (.int 1)] [(.int u1), (.int 1), (.ref bb638)])) _
    exact kq)
  have f655 := (Nat.le_trans f646 K645.1)
  have f656 := (f647.keep K645 (allS hg638 all0))
  obtain ⟨_, _, ⟨T654, L654, k654, n654⟩, -, X654, ⟨Lc654, hQ654, l654, y654, z654⟩, st654⟩ := Jvm.LawKit.callS X645 hx (y := (⟨"java/lang/StringUTF16", "putChar", "([BII)V"⟩ : MethodName)) hown (mvT hZ (wd hw 112 rfl)) (mvT hZ (wd hw 113 rfl)) (mvT hZ (wd hw 40 rfl)) (mvT hZ (wd hw 114 rfl)) (by decide) (backOf (W := 0) (rmPu31 l Z a0 hw [] bb638 kk638 (own_lo u0) (own_hi u0) (0 : Int32) (0 : Int32) (0 : Int32) (0 : Int32) u1 cs fo T645.heap n0 f655 Ab645 hg638 hCS hcs hSF hfo hAD hHI hLO f656) hZ (wd hw 114 rfl) (wd hw 40 rfl) (by decide) (by decide)) (g := (mkF m 20 #[.val (.ref tx), .val (.int 1), .val (.int 3), .val (.ref bb638), .val (.int 1)] [(.int u1), (.int 1), (.ref bb638)])) rfl (by rw [hml]; rfl) (argsL := [(.ref bb638), (.int 1), (.int u1)]) (rest := []) (lenOf pd_12 rfl) rfl (by show 2 * 0 + _ ≤ _; exact Nat.le_of_eq rfl) (hb hby d24_20) (fun _ _ => ⟨rfl, rfl, (by decide : 1 + 0 ≤ _), (by decide : 6 + 0 ≤ _)⟩)
  dsimp only [Pt.U, Pt.locs, Pt.cells, Pt.slots] at X654 l654 y654 z654 st654 hQ654
  obtain rfl : k654 = 1 := y654
  obtain rfl : n654 = 6 := z654
  obtain ⟨rfl, N654q, K654, Ab654⟩ := hQ654
  have N654 : Fr n0 L654 := by rw [l654]; exact Fr.app N645 N654q
  have G657 : Go p e below A0 (T654.setTop (mkF m 23 #[.val (.ref tx), .val (.int 1), .val (.int 3), .val (.ref bb638), .val (.int 1)] [])) := fun tq kq => G653 tq (st654 _ kq)
  have G658 : Go p e below A0 (T654.setTop (mkF m 19 #[.val (.ref tx), .val (.int 2), .val (.int 3), .val (.ref bb638), .val (.int 2)] [(.int 2), (.ref tx), (.int 2), (.ref bb638)])) := fun tq kq => G657 tq (by
    refine XS.iinc X654.here hx rfl (hb hby d24_23) rfl (l' := #[.val (.ref tx), .val (.int ((1 : Int32) + (1 : Int32))), .val (.int 3), .val (.ref bb638), .val (.int 1)]) rfl ?_
    show Steps p.tables e below (T654.setTop (mkF m 26 #[.val (.ref tx), .val (.int ((1 : Int32) + (1 : Int32))), .val (.int 3), .val (.ref bb638), .val (.int 1)] [])) _
    rw [show ((1 : Int32) + (1 : Int32)) = (2 : Int32) from (by decide : ((1 : Int32) + (1 : Int32)) = (2 : Int32))]
    show Steps p.tables e below (T654.setTop (mkF m 26 #[.val (.ref tx), .val (.int 2), .val (.int 3), .val (.ref bb638), .val (.int 1)] [])) _
    refine XS.iinc X654.here hx rfl (hb hby d24_26) rfl (l' := #[.val (.ref tx), .val (.int 2), .val (.int 3), .val (.ref bb638), .val (.int ((1 : Int32) + (1 : Int32)))]) rfl ?_
    show Steps p.tables e below (T654.setTop (mkF m 29 #[.val (.ref tx), .val (.int 2), .val (.int 3), .val (.ref bb638), .val (.int ((1 : Int32) + (1 : Int32)))] [])) _
    rw [show ((1 : Int32) + (1 : Int32)) = (2 : Int32) from (by decide : ((1 : Int32) + (1 : Int32)) = (2 : Int32))]
    show Steps p.tables e below (T654.setTop (mkF m 29 #[.val (.ref tx), .val (.int 2), .val (.int 3), .val (.ref bb638), .val (.int 2)] [])) _
    refine XS.goto X654.here hx rfl (pc0 := 29) (pc' := 8) rfl (hb hby d24_29) (by decide) (by decide) ?_
    refine XS.iload X654.here hx rfl (hb hby d24_8) rfl ?_
    refine XS.iloadN X654.here hx rfl (hb hby d24_10) rfl ?_
    refine XS.icmpNo X654.here hx rfl (hb hby d24_11) rfl (by decide) ?_
    refine XS.aloadN X654.here hx rfl (hb hby d24_14) rfl rfl ?_
    refine XS.iload X654.here hx rfl (hb hby d24_15) rfl ?_
    refine XS.aloadN X654.here hx rfl (hb hby d24_17) rfl rfl ?_
    refine XS.iloadN X654.here hx rfl (hb hby d24_18) rfl ?_
    exact kq)
  have f659 := (f650.keep K654 (ninS (Nat.ne_of_lt lt_tx_bb638) nin0))
  obtain ⟨cl660, Ar660, q660, S660, M660, H660, Gf660⟩ := id f659
  have hi661 : ¬ ((2 : Int32) < 0 ∨ cl660.slots.size ≤ ((2 : Int32)).toNatClampNeg) := (inb_of S660 ⟨by decide, by decide⟩)
  have G662 : Go p e below A0 (T654.setTop (mkF m 20 #[.val (.ref tx), .val (.int 2), .val (.int 3), .val (.ref bb638), .val (.int 2)] [(.int u2), (.int 2), (.ref bb638)])) := fun tq kq => G658 tq (by
    refine X654.caload hx (j := (2 : Int32)) (v := (.int u2)) Ar660.1 (State.isArrayOf_alike hZ.alike Ar660.2.1) Ar660.2.2 hi661 (H660.at hi661 rfl) (g := (mkF m 19 #[.val (.ref tx), .val (.int 2), .val (.int 3), .val (.ref bb638), .val (.int 2)] [(.int 2), (.ref tx), (.int 2), (.ref bb638)])) rfl rfl (hb hby d24_19) _ ?_
    show Steps p.tables e below (T654.setTop (mkF m 20 #[.val (.ref tx), .val (.int 2), .val (.int 3), .val (.ref bb638), .val (.int 2)] [(.int u2), (.int 2), (.ref bb638)])) _
    exact kq)
  have f664 := (Nat.le_trans f655 K654.1)
  have f665 := (f656.keep K654 (allS hg638 all0))
  obtain ⟨_, _, ⟨T663, L663, k663, n663⟩, -, X663, ⟨Lc663, hQ663, l663, y663, z663⟩, st663⟩ := Jvm.LawKit.callS X654 hx (y := (⟨"java/lang/StringUTF16", "putChar", "([BII)V"⟩ : MethodName)) hown (mvT hZ (wd hw 112 rfl)) (mvT hZ (wd hw 113 rfl)) (mvT hZ (wd hw 40 rfl)) (mvT hZ (wd hw 114 rfl)) (by decide) (backOf (W := 0) (rmPu32 l Z a0 hw [] bb638 kk638 (own_lo u0) (own_hi u0) (own_lo u1) (own_hi u1) (0 : Int32) (0 : Int32) u2 cs fo T654.heap n0 f664 Ab654 hg638 hCS hcs hSF hfo hAD hHI hLO f665) hZ (wd hw 114 rfl) (wd hw 40 rfl) (by decide) (by decide)) (g := (mkF m 20 #[.val (.ref tx), .val (.int 2), .val (.int 3), .val (.ref bb638), .val (.int 2)] [(.int u2), (.int 2), (.ref bb638)])) rfl (by rw [hml]; rfl) (argsL := [(.ref bb638), (.int 2), (.int u2)]) (rest := []) (lenOf pd_12 rfl) rfl (by show 2 * 0 + _ ≤ _; exact Nat.le_of_eq rfl) (hb hby d24_20) (fun _ _ => ⟨rfl, rfl, (by decide : 1 + 0 ≤ _), (by decide : 6 + 0 ≤ _)⟩)
  dsimp only [Pt.U, Pt.locs, Pt.cells, Pt.slots] at X663 l663 y663 z663 st663 hQ663
  obtain rfl : k663 = 1 := y663
  obtain rfl : n663 = 6 := z663
  obtain ⟨rfl, N663q, K663, Ab663⟩ := hQ663
  have N663 : Fr n0 L663 := by rw [l663]; exact Fr.app N654 N663q
  have G666 : Go p e below A0 (T663.setTop (mkF m 23 #[.val (.ref tx), .val (.int 2), .val (.int 3), .val (.ref bb638), .val (.int 2)] [])) := fun tq kq => G662 tq (st663 _ kq)
  have G667 : Go p e below A0 (T663.setTop (mkF m 33 #[.val (.ref tx), .val (.int 3), .val (.int 3), .val (.ref bb638), .val (.int 3)] [(.ref bb638)])) := fun tq kq => G666 tq (by
    refine XS.iinc X663.here hx rfl (hb hby d24_23) rfl (l' := #[.val (.ref tx), .val (.int ((2 : Int32) + (1 : Int32))), .val (.int 3), .val (.ref bb638), .val (.int 2)]) rfl ?_
    show Steps p.tables e below (T663.setTop (mkF m 26 #[.val (.ref tx), .val (.int ((2 : Int32) + (1 : Int32))), .val (.int 3), .val (.ref bb638), .val (.int 2)] [])) _
    rw [show ((2 : Int32) + (1 : Int32)) = (3 : Int32) from (by decide : ((2 : Int32) + (1 : Int32)) = (3 : Int32))]
    show Steps p.tables e below (T663.setTop (mkF m 26 #[.val (.ref tx), .val (.int 3), .val (.int 3), .val (.ref bb638), .val (.int 2)] [])) _
    refine XS.iinc X663.here hx rfl (hb hby d24_26) rfl (l' := #[.val (.ref tx), .val (.int 3), .val (.int 3), .val (.ref bb638), .val (.int ((2 : Int32) + (1 : Int32)))]) rfl ?_
    show Steps p.tables e below (T663.setTop (mkF m 29 #[.val (.ref tx), .val (.int 3), .val (.int 3), .val (.ref bb638), .val (.int ((2 : Int32) + (1 : Int32)))] [])) _
    rw [show ((2 : Int32) + (1 : Int32)) = (3 : Int32) from (by decide : ((2 : Int32) + (1 : Int32)) = (3 : Int32))]
    show Steps p.tables e below (T663.setTop (mkF m 29 #[.val (.ref tx), .val (.int 3), .val (.int 3), .val (.ref bb638), .val (.int 3)] [])) _
    refine XS.goto X663.here hx rfl (pc0 := 29) (pc' := 8) rfl (hb hby d24_29) (by decide) (by decide) ?_
    refine XS.iload X663.here hx rfl (hb hby d24_8) rfl ?_
    refine XS.iloadN X663.here hx rfl (hb hby d24_10) rfl ?_
    refine XS.icmpYes X663.here hx rfl (pc0 := 11) (pc' := 32) rfl (hb hby d24_11) rfl (by decide) (by decide) (by decide) ?_
    refine XS.aloadN X663.here hx rfl (hb hby d24_32) rfl rfl ?_
    exact kq)
  obtain ⟨fs, hr, hrun, hended, hW, hsame⟩ := X663.leave (v := some (.ref bb638)) (fun h => by rw [Bd.returns] at h; cases h)
  refine ⟨_, _, (by rw [← hA0]; exact G667 _ (retOut X663 hx (t := (.array .byte)) Bd.returns rfl (Or.inr (Or.inr (Or.inr (Or.inr ⟨rfl, rfl, rfl⟩)))) (hb hby d24_33) hr)), hrun, hended, _, _, rfl, ?_, ⟨_, rfl⟩, hW, hsame.mono (by decide) (by decide)⟩
  show Qb Z (6 : Int32) [(.int (own_lo u0)), (.int (own_hi u0)), (.int (own_lo u1)), (.int (own_hi u1)), (.int (own_lo u2)), (.int (own_hi u2))] h0 n0 _ T663.heap _
  exact ⟨bb638, kk638, rfl, N663, (((((Keep.refl h0 []).trans K638 all0).trans K645 (allS (P := fun x => x ∈ [] ∨ h0.size ≤ x) (Or.inr sz_bb638) all0)).trans K654 (allS (P := fun x => x ∈ [] ∨ h0.size ≤ x) (Or.inr sz_bb638) all0)).trans K663 (allS (P := fun x => x ∈ [] ∨ h0.size ≤ x) (Or.inr sz_bb638) all0)), sz_bb638, hg638, Ab663⟩
set_option maxRecDepth 65536 in
set_option maxHeartbeats 40000000 in
theorem rmTC0 (l : Launch) (Z : State) (a0 : Array Value) (hw : ∀ d ∈ tables_1, d.before a0 Z = true) (ws : List Jvm.Cond) (uc : Int32) (cs : Int32) (fo : Value) (h0 : Heap) (n0 : Nat) (Z0 : n0 ≤ h0.size) (hCS : Sta Z Z.heap "java/lang/String" "COMPACT_STRINGS" "Z" (.int cs)) (hcs : ¬ cs = (0 : Int32)) (hSF : Sta Z Z.heap "jdk/internal/util/Preconditions" "SIOOBE_FORMATTER" "Ljava/util/function/BiFunction;" fo) (hfo : fo.isRef = true) (hAD : Sta Z Z.heap "java/lang/StringUTF16" "$assertionsDisabled" "Z" (.int 1)) (hHI : Sta Z Z.heap "java/lang/StringUTF16" "HI_BYTE_SHIFT" "I" (.int 0)) (hLO : Sta Z Z.heap "java/lang/StringUTF16" "LO_BYTE_SHIFT" "I" (.int 8)) (hold : Old Z n0 h0) :
    MetFree l (⟨"java/lang/StringLatin1", "toBytes", "(C)[B"⟩ : MethodName) (head1 (Jvm.Cond.code (⟨"java/lang/StringLatin1", "toBytes", "(C)[B"⟩ : MethodName) jdk_43_method_46_code 1 (some (.array .byte)) :: ws) (Rm 0 1 1 0)) (fun aa UU => aa = #[(.int uc)] ∧ Z.Warmed39 UU.vm ∧ UU.heap = h0) (fun _ _ _ _ _ => True) (fun _ UU oo U' => ∃ v L, oo = .returned v ∧ Qb Z (1 : Int32) [(.int (own_by uc))] h0 n0 v U'.heap L ∧ FrameEnd UU oo U' L (Rm 0 1 1 0).cells (Rm 0 1 1 0).slots) := by
  refine MetFree.of_bodySF (plainFor_of_name pn_3) hisR ?_
  intro p e s m args below meth c s₁ Bd hml0 hP hK
  obtain ⟨rfl, hZ, hh⟩ := hP
  have hx := Bd.exec
  have hby := Bd.bytes
  have hml : c.maxLocals = 1 := hml0
  have hown : s.vm.findClass "java/lang/StringLatin1" = some m.cls := findClass_of_methodNamed Bd.named
  have hnm := (name_of_methodNamed Bd.named Bd.method).1
  have X0 : Stand p l e (Rm 0 1 1 0) s m #[(.int uc)] below meth c s₁ [] 0 0 := Stand.of_body Bd
  have e0 : s₁.heap = h0 := by rw [← hh, Bd.state]; rfl
  have N0 := Fr.nil n0
  obtain ⟨A0, hA0⟩ : ∃ A, A = s₁.setTop (entryFrame m #[(.int uc)] 1) := ⟨_, rfl⟩
  have G0 : Go p e below A0 (s₁.setTop (mkF m 0 #[.val (.int uc)] [])) := fun tq kq => by rw [hA0]; exact castTop (ef_rmTC0 m uc) kq
  have G668 : Go p e below A0 (s₁.setTop (mkF m 1 #[.val (.int uc)] [(.int 1)])) := fun tq kq => G0 tq (by
    refine XS.iconst X0.here hx rfl (hb hby d22_0) ?_
    exact kq)
  obtain ⟨T669, h669, k669, X669, e669, E669, A669, st669⟩ := newP X0 hx hZ (wd hw 21 rfl) e0 (g := (mkF m 1 #[.val (.int uc)] [(.int 1)])) rfl (hb hby d22_1) rfl (by decide) (cap := 1) (by decide) (by decide) (by decide) (by decide)
  obtain ⟨b669, g669⟩ : ∃ z, z = h0.size := ⟨_, rfl⟩
  rw [← g669] at A669 st669
  have sz_b669 : h0.size ≤ b669 := Nat.le_trans (Nat.le_refl h0.size) (Nat.le_of_eq g669.symm)
  have g_b669 : n0 ≤ b669 := Nat.le_trans Z0 (Nat.le_of_eq g669.symm)
  have V669 : Arv Z h669 b669 k669 .byte (1 : Int32) [(.int 0)] (.int 0) := (Arv.new A669 (by decide)).pad (pad_rep [] (.int 0) 1)
  have G670 : Go p e below A0 (T669.setTop (mkF m 3 #[.val (.int uc)] [(.ref b669)])) := fun tq kq => G668 tq (st669 _ kq)
  have G671 : Go p e below A0 (T669.setTop (mkF m 7 #[.val (.int uc)] [(.int (own_by uc)), (.int 0), (.ref b669), (.ref b669)])) := fun tq kq => G670 tq (by
    refine XS.dup X669.here hx rfl (hb hby d22_3) rfl rfl ?_
    refine XS.iconst X669.here hx rfl (hb hby d22_4) ?_
    refine XS.iloadN X669.here hx rfl (hb hby d22_5) rfl ?_
    refine XS.i2b X669.here hx rfl (hb hby d22_6) rfl ?_
    show Steps p.tables e below (T669.setTop (mkF m 7 #[.val (.int uc)] [(.int uc.toInt8.toInt32), (.int 0), (.ref b669), (.ref b669)])) _
    rw [show uc.toInt8.toInt32 = (own_by uc) from rfl]
    show Steps p.tables e below (T669.setTop (mkF m 7 #[.val (.int uc)] [(.int (own_by uc)), (.int 0), (.ref b669), (.ref b669)])) _
    exact kq)
  obtain ⟨cl672, Ar672, q672, S672, M672, H672, Gf672⟩ := id V669
  have hi673 : ¬ ((0 : Int32) < 0 ∨ cl672.slots.size ≤ ((0 : Int32)).toNatClampNeg) := (inb_of S672 ⟨by decide, by decide⟩)
  obtain ⟨T674, h674, X674, e674, W674, st674⟩ := stB X669 hx hZ e669 Ar672 (j := (0 : Int32)) hi673 (g := (mkF m 7 #[.val (.int uc)] [(.int (own_by uc)), (.int 0), (.ref b669), (.ref b669)])) rfl rfl (hb hby d22_7)
  rw [show nar .byte (own_by uc) = (own_by uc) from own_byN _] at W674
  have N674 := Fr.snoc X674 N0 g_b669
  have V674 := Arv.set Ar672 q672 S672 M672 H672 Gf672 (own_byF _) W674 0 rfl (Nat.le_of_ble_eq_true rfl)
  have V674' : Arv Z h674 b669 k669 .byte (1 : Int32) [(.int (own_by uc))] (.int 0) := by exact V674
  have G675 : Go p e below A0 (T674.setTop (mkF m 8 #[.val (.int uc)] [(.ref b669)])) := fun tq kq => G671 tq (st674 _ kq)
  obtain ⟨fs, hr, hrun, hended, hW, hsame⟩ := X674.leave (v := some (.ref b669)) (fun h => by rw [Bd.returns] at h; cases h)
  refine ⟨_, _, (by rw [← hA0]; exact G675 _ (retOut X674 hx (t := (.array .byte)) Bd.returns rfl (Or.inr (Or.inr (Or.inr (Or.inr ⟨rfl, rfl, rfl⟩)))) (hb hby d22_8) hr)), hrun, hended, _, _, rfl, ?_, ⟨_, rfl⟩, hW, hsame.mono (by decide) (by decide)⟩
  show Qb Z (1 : Int32) [(.int (own_by uc))] h0 n0 _ T674.heap _
  rw [e674]
  exact ⟨b669, k669, rfl, N674, (((Keep.refl h0 []).ext E669).wr W674 (Or.inr sz_b669)), sz_b669, g_b669, V674'⟩
set_option maxRecDepth 65536 in
set_option maxHeartbeats 40000000 in
theorem rmTC1 (l : Launch) (Z : State) (a0 : Array Value) (hw : ∀ d ∈ tables_1, d.before a0 Z = true) (ws : List Jvm.Cond) (uc : Int32) (cs : Int32) (fo : Value) (h0 : Heap) (n0 : Nat) (Z0 : n0 ≤ h0.size) (hCS : Sta Z Z.heap "java/lang/String" "COMPACT_STRINGS" "Z" (.int cs)) (hcs : ¬ cs = (0 : Int32)) (hSF : Sta Z Z.heap "jdk/internal/util/Preconditions" "SIOOBE_FORMATTER" "Ljava/util/function/BiFunction;" fo) (hfo : fo.isRef = true) (hAD : Sta Z Z.heap "java/lang/StringUTF16" "$assertionsDisabled" "Z" (.int 1)) (hHI : Sta Z Z.heap "java/lang/StringUTF16" "HI_BYTE_SHIFT" "I" (.int 0)) (hLO : Sta Z Z.heap "java/lang/StringUTF16" "LO_BYTE_SHIFT" "I" (.int 8)) (hold : Old Z n0 h0) :
    MetFree l (⟨"java/lang/StringUTF16", "toBytes", "(C)[B"⟩ : MethodName) (head1 (Jvm.Cond.code (⟨"java/lang/StringUTF16", "toBytes", "(C)[B"⟩ : MethodName) jdk_52_method_24_code 2 (some (.array .byte)) :: ws) (Rm 1 1 2 14)) (fun aa UU => aa = #[(.int uc)] ∧ Z.Warmed39 UU.vm ∧ UU.heap = h0) (fun _ _ _ _ _ => True) (fun _ UU oo U' => ∃ v L, oo = .returned v ∧ Qb Z (2 : Int32) [(.int (own_lo uc)), (.int (own_hi uc))] h0 n0 v U'.heap L ∧ FrameEnd UU oo U' L (Rm 1 1 2 14).cells (Rm 1 1 2 14).slots) := by
  refine MetFree.of_bodySF (plainFor_of_name pn_2) hisR ?_
  intro p e s m args below meth c s₁ Bd hml0 hP hK
  obtain ⟨rfl, hZ, hh⟩ := hP
  have hx := Bd.exec
  have hby := Bd.bytes
  have hml : c.maxLocals = 2 := hml0
  have hown : s.vm.findClass "java/lang/StringUTF16" = some m.cls := findClass_of_methodNamed Bd.named
  have hnm := (name_of_methodNamed Bd.named Bd.method).1
  have X0 : Stand p l e (Rm 1 1 2 14) s m #[(.int uc)] below meth c s₁ [] 0 0 := Stand.of_body Bd
  have e0 : s₁.heap = h0 := by rw [← hh, Bd.state]; rfl
  have N0 := Fr.nil n0
  obtain ⟨A0, hA0⟩ : ∃ A, A = s₁.setTop (entryFrame m #[(.int uc)] 2) := ⟨_, rfl⟩
  have G0 : Go p e below A0 (s₁.setTop (mkF m 0 #[.val (.int uc), .unset] [])) := fun tq kq => by rw [hA0]; exact castTop (ef_rmTC1 m uc) kq
  have G676 : Go p e below A0 (s₁.setTop (mkF m 1 #[.val (.int uc), .unset] [(.int 2)])) := fun tq kq => G0 tq (by
    refine XS.iconst X0.here hx rfl (hb hby d32_0) ?_
    exact kq)
  obtain ⟨T677, h677, k677, X677, e677, E677, A677, st677⟩ := newP X0 hx hZ (wd hw 21 rfl) e0 (g := (mkF m 1 #[.val (.int uc), .unset] [(.int 2)])) rfl (hb hby d32_1) rfl (by decide) (cap := 2) (by decide) (by decide) (by decide) (by decide)
  obtain ⟨b677, g677⟩ : ∃ z, z = h0.size := ⟨_, rfl⟩
  rw [← g677] at A677 st677
  have sz_b677 : h0.size ≤ b677 := Nat.le_trans (Nat.le_refl h0.size) (Nat.le_of_eq g677.symm)
  have g_b677 : n0 ≤ b677 := Nat.le_trans Z0 (Nat.le_of_eq g677.symm)
  have V677 : Arv Z h677 b677 k677 .byte (2 : Int32) [(.int 0), (.int 0)] (.int 0) := (Arv.new A677 (by decide)).pad (pad_rep [] (.int 0) 2)
  have G678 : Go p e below A0 (T677.setTop (mkF m 3 #[.val (.int uc), .unset] [(.ref b677)])) := fun tq kq => G676 tq (st677 _ kq)
  have G679 : Go p e below A0 (T677.setTop (mkF m 7 #[.val (.int uc), .val (.ref b677)] [(.int uc), (.int 0), (.ref b677)])) := fun tq kq => G678 tq (by
    refine XS.astoreN X677.here hx rfl (hb hby d32_3) rfl rfl (l' := #[.val (.int uc), .val (.ref b677)]) rfl ?_
    refine XS.aloadN X677.here hx rfl (hb hby d32_4) rfl rfl ?_
    refine XS.iconst X677.here hx rfl (hb hby d32_5) ?_
    refine XS.iloadN X677.here hx rfl (hb hby d32_6) rfl ?_
    exact kq)
  have f681 := (Nat.le_trans Z0 E677.1)
  have f682 := (hold.ext E677)
  obtain ⟨_, _, ⟨T680, L680, k680, n680⟩, -, X680, ⟨Lc680, hQ680, l680, y680, z680⟩, st680⟩ := Jvm.LawKit.callS X677 hx (y := (⟨"java/lang/StringUTF16", "putChar", "([BII)V"⟩ : MethodName)) hown (mvT hZ (wd hw 112 rfl)) (mvT hZ (wd hw 113 rfl)) (mvT hZ (wd hw 40 rfl)) (mvT hZ (wd hw 114 rfl)) (by decide) (backOf (W := 0) (rmPu10 l Z a0 hw [] b677 k677 (0 : Int32) (0 : Int32) uc cs fo h677 n0 f681 V677 g_b677 hCS hcs hSF hfo hAD hHI hLO f682) hZ (wd hw 114 rfl) (wd hw 40 rfl) (by decide) (by decide)) (g := (mkF m 7 #[.val (.int uc), .val (.ref b677)] [(.int uc), (.int 0), (.ref b677)])) rfl (by rw [hml]; rfl) (argsL := [(.ref b677), (.int 0), (.int uc)]) (rest := []) (lenOf pd_12 rfl) rfl (by show 2 * 0 + _ ≤ _; exact Nat.le_of_eq rfl) (hb hby d32_7) (fun _ _ => ⟨rfl, e677, (by decide : 1 + 0 ≤ _), (by decide : 2 + 0 ≤ _)⟩)
  dsimp only [Pt.U, Pt.locs, Pt.cells, Pt.slots] at X680 l680 y680 z680 st680 hQ680
  obtain rfl : k680 = 1 := y680
  obtain rfl : n680 = 2 := z680
  obtain ⟨rfl, N680q, K680, Ab680⟩ := hQ680
  have N680 : Fr n0 L680 := by rw [l680]; exact Fr.app N0 N680q
  have G683 : Go p e below A0 (T680.setTop (mkF m 10 #[.val (.int uc), .val (.ref b677)] [])) := fun tq kq => G679 tq (st680 _ kq)
  have G684 : Go p e below A0 (T680.setTop (mkF m 11 #[.val (.int uc), .val (.ref b677)] [(.ref b677)])) := fun tq kq => G683 tq (by
    refine XS.aloadN X680.here hx rfl (hb hby d32_10) rfl rfl ?_
    exact kq)
  obtain ⟨fs, hr, hrun, hended, hW, hsame⟩ := X680.leave (v := some (.ref b677)) (fun h => by rw [Bd.returns] at h; cases h)
  refine ⟨_, _, (by rw [← hA0]; exact G684 _ (retOut X680 hx (t := (.array .byte)) Bd.returns rfl (Or.inr (Or.inr (Or.inr (Or.inr ⟨rfl, rfl, rfl⟩)))) (hb hby d32_11) hr)), hrun, hended, _, _, rfl, ?_, ⟨_, rfl⟩, hW, hsame.mono (by decide) (by decide)⟩
  show Qb Z (2 : Int32) [(.int (own_lo uc)), (.int (own_hi uc))] h0 n0 _ T680.heap _
  exact ⟨b677, k677, rfl, N680, (((Keep.refl h0 []).ext E677).trans K680 (allS (P := fun x => x ∈ [] ∨ h0.size ≤ x) (Or.inr sz_b677) all0)), sz_b677, g_b677, Ab680⟩
def Qk20 (Z : State) (bb : Addr) (kb : ClassId) (u0 u1 : Int32) (h0 : Heap) (n0 : Nat) (v : Option Value) (h : Heap) (L : List Loc) : Prop := v = some (.int 0) ∧ Fr n0 L ∧ Keep h0 h [bb]
set_option maxRecDepth 65536 in
set_option maxHeartbeats 40000000 in
theorem rmK20 (l : Launch) (Z : State) (a0 : Array Value) (hw : ∀ d ∈ tables_1, d.before a0 Z = true) (ws : List Jvm.Cond) (tx bb : Addr) (kt kb : ClassId) (u0 u1 : Int32) (h0 : Heap) (n0 : Nat) (Z0 : n0 ≤ h0.size) (At : Arv Z h0 tx kt .char (2 : Int32) [(.int u0), (.int u1)] (.int 0)) (Ab : Arv Z h0 bb kb .byte (2 : Int32) [(.int 0), (.int 0)] (.int 0)) (gb : n0 ≤ bb) (htb : tx ≠ bb) (ru0 : own_R u0) (ru1 : own_R u1) (gu : (255 : Int32) < u0) :
    MetFree l (⟨"java/lang/StringUTF16", "compress", "([CI[BII)I"⟩ : MethodName) (head1 (Jvm.Cond.code (⟨"java/lang/StringUTF16", "compress", "([CI[BII)I"⟩ : MethodName) jdk_52_method_21_code 7 (some .int) :: ws) (Rm 0 0 0 0)) (fun aa UU => aa = #[(.ref tx), (.int 0), (.ref bb), (.int 0), (.int 2)] ∧ Z.Warmed39 UU.vm ∧ UU.heap = h0) (fun _ _ _ _ _ => True) (fun _ UU oo U' => ∃ v L, oo = .returned v ∧ Qk20 Z bb kb u0 u1 h0 n0 v U'.heap L ∧ FrameEnd UU oo U' L (Rm 0 0 0 0).cells (Rm 0 0 0 0).slots) := by
  refine MetFree.of_bodySF (plainFor_of_name pn_2) hisR ?_
  intro p e s m args below meth c s₁ Bd hml0 hP hK
  obtain ⟨rfl, hZ, hh⟩ := hP
  have hx := Bd.exec
  have hby := Bd.bytes
  have hml : c.maxLocals = 7 := hml0
  have hown : s.vm.findClass "java/lang/StringUTF16" = some m.cls := findClass_of_methodNamed Bd.named
  have hnm := (name_of_methodNamed Bd.named Bd.method).1
  have X0 : Stand p l e (Rm 0 0 0 0) s m #[(.ref tx), (.int 0), (.ref bb), (.int 0), (.int 2)] below meth c s₁ [] 0 0 := Stand.of_body Bd
  have e0 : s₁.heap = h0 := by rw [← hh, Bd.state]; rfl
  have N0 := Fr.nil n0
  obtain ⟨A0, hA0⟩ : ∃ A, A = s₁.setTop (entryFrame m #[(.ref tx), (.int 0), (.ref bb), (.int 0), (.int 2)] 7) := ⟨_, rfl⟩
  have G0 : Go p e below A0 (s₁.setTop (mkF m 0 #[.val (.ref tx), .val (.int 0), .val (.ref bb), .val (.int 0), .val (.int 2), .unset, .unset] [])) := fun tq kq => by rw [hA0]; exact castTop (ef_rmK20 m tx (0 : Int32) bb (0 : Int32) (2 : Int32)) kq
  have G685 : Go p e below A0 (s₁.setTop (mkF m 12 #[.val (.ref tx), .val (.int 0), .val (.ref bb), .val (.int 0), .val (.int 2), .val (.int 0), .unset] [(.int 0), (.ref tx)])) := fun tq kq => G0 tq (by
    refine XS.iconst X0.here hx rfl (hb hby d8_0) ?_
    refine XS.istore X0.here hx rfl (hb hby d8_1) rfl (l' := #[.val (.ref tx), .val (.int 0), .val (.ref bb), .val (.int 0), .val (.int 2), .val (.int 0), .unset]) rfl ?_
    refine XS.iload X0.here hx rfl (hb hby d8_3) rfl ?_
    refine XS.iload X0.here hx rfl (hb hby d8_5) rfl ?_
    refine XS.icmpNo X0.here hx rfl (hb hby d8_7) rfl (by decide) ?_
    refine XS.aloadN X0.here hx rfl (hb hby d8_10) rfl rfl ?_
    refine XS.iloadN X0.here hx rfl (hb hby d8_11) rfl ?_
    exact kq)
  obtain ⟨cl686, Ar686, q686, S686, M686, H686, Gf686⟩ := id At
  have hi687 : ¬ ((0 : Int32) < 0 ∨ cl686.slots.size ≤ ((0 : Int32)).toNatClampNeg) := (inb_of S686 ⟨by decide, by decide⟩)
  have G688 : Go p e below A0 (s₁.setTop (mkF m 25 #[.val (.ref tx), .val (.int 0), .val (.ref bb), .val (.int 0), .val (.int 2), .val (.int 0), .val (.int u0)] [(.int 0)])) := fun tq kq => G685 tq (by
    refine X0.caload hx (j := (0 : Int32)) (v := (.int u0)) (by rw [e0]; exact Ar686.1) (State.isArrayOf_alike hZ.alike Ar686.2.1) Ar686.2.2 hi687 (H686.at hi687 rfl) (g := (mkF m 12 #[.val (.ref tx), .val (.int 0), .val (.ref bb), .val (.int 0), .val (.int 2), .val (.int 0), .unset] [(.int 0), (.ref tx)])) rfl rfl (hb hby d8_12) _ ?_
    show Steps p.tables e below (s₁.setTop (mkF m 13 #[.val (.ref tx), .val (.int 0), .val (.ref bb), .val (.int 0), .val (.int 2), .val (.int 0), .unset] [(.int u0)])) _
    refine XS.istore X0.here hx rfl (hb hby d8_13) rfl (l' := #[.val (.ref tx), .val (.int 0), .val (.ref bb), .val (.int 0), .val (.int 2), .val (.int 0), .val (.int u0)]) rfl ?_
    refine XS.iload X0.here hx rfl (hb hby d8_15) rfl ?_
    refine XS.sipush X0.here hx rfl (hb hby d8_17) ?_
    refine XS.icmpNo X0.here hx rfl (hb hby d8_20) rfl (tlt gu).2.2.2 ?_
    refine XS.iload X0.here hx rfl (hb hby d8_23) rfl ?_
    exact kq)
  obtain ⟨fs, hr, hrun, hended, hW, hsame⟩ := X0.leave (v := some (.int 0)) (fun h => by rw [Bd.returns] at h; cases h)
  refine ⟨_, _, (by rw [← hA0]; exact G688 _ (retOut X0 hx (t := .int) Bd.returns rfl (Or.inl ⟨rfl, Or.inl rfl, _, rfl⟩) (hb hby d8_25) hr)), hrun, hended, _, _, rfl, ?_, ⟨_, rfl⟩, hW, hsame.mono (by decide) (by decide)⟩
  show Qk20 Z bb kb u0 u1 h0 n0 _ s₁.heap _
  rw [e0]
  exact ⟨rfl, N0, (Keep.refl h0 [bb])⟩
def Qk21 (Z : State) (bb : Addr) (kb : ClassId) (u0 u1 : Int32) (h0 : Heap) (n0 : Nat) (v : Option Value) (h : Heap) (L : List Loc) : Prop := v = some (.int 1) ∧ Fr n0 L ∧ Keep h0 h [bb]
set_option maxRecDepth 65536 in
set_option maxHeartbeats 40000000 in
theorem rmK21 (l : Launch) (Z : State) (a0 : Array Value) (hw : ∀ d ∈ tables_1, d.before a0 Z = true) (ws : List Jvm.Cond) (tx bb : Addr) (kt kb : ClassId) (u0 u1 : Int32) (h0 : Heap) (n0 : Nat) (Z0 : n0 ≤ h0.size) (At : Arv Z h0 tx kt .char (2 : Int32) [(.int u0), (.int u1)] (.int 0)) (Ab : Arv Z h0 bb kb .byte (2 : Int32) [(.int 0), (.int 0)] (.int 0)) (gb : n0 ≤ bb) (htb : tx ≠ bb) (ru0 : own_R u0) (ru1 : own_R u1) (lu0 : ¬ (255 : Int32) < u0) (gu : (255 : Int32) < u1) :
    MetFree l (⟨"java/lang/StringUTF16", "compress", "([CI[BII)I"⟩ : MethodName) (head1 (Jvm.Cond.code (⟨"java/lang/StringUTF16", "compress", "([CI[BII)I"⟩ : MethodName) jdk_52_method_21_code 7 (some .int) :: ws) (Rm 0 0 0 0)) (fun aa UU => aa = #[(.ref tx), (.int 0), (.ref bb), (.int 0), (.int 2)] ∧ Z.Warmed39 UU.vm ∧ UU.heap = h0) (fun _ _ _ _ _ => True) (fun _ UU oo U' => ∃ v L, oo = .returned v ∧ Qk21 Z bb kb u0 u1 h0 n0 v U'.heap L ∧ FrameEnd UU oo U' L (Rm 0 0 0 0).cells (Rm 0 0 0 0).slots) := by
  refine MetFree.of_bodySF (plainFor_of_name pn_2) hisR ?_
  intro p e s m args below meth c s₁ Bd hml0 hP hK
  obtain ⟨rfl, hZ, hh⟩ := hP
  have hx := Bd.exec
  have hby := Bd.bytes
  have hml : c.maxLocals = 7 := hml0
  have hown : s.vm.findClass "java/lang/StringUTF16" = some m.cls := findClass_of_methodNamed Bd.named
  have hnm := (name_of_methodNamed Bd.named Bd.method).1
  have X0 : Stand p l e (Rm 0 0 0 0) s m #[(.ref tx), (.int 0), (.ref bb), (.int 0), (.int 2)] below meth c s₁ [] 0 0 := Stand.of_body Bd
  have e0 : s₁.heap = h0 := by rw [← hh, Bd.state]; rfl
  have N0 := Fr.nil n0
  obtain ⟨A0, hA0⟩ : ∃ A, A = s₁.setTop (entryFrame m #[(.ref tx), (.int 0), (.ref bb), (.int 0), (.int 2)] 7) := ⟨_, rfl⟩
  have G0 : Go p e below A0 (s₁.setTop (mkF m 0 #[.val (.ref tx), .val (.int 0), .val (.ref bb), .val (.int 0), .val (.int 2), .unset, .unset] [])) := fun tq kq => by rw [hA0]; exact castTop (ef_rmK21 m tx (0 : Int32) bb (0 : Int32) (2 : Int32)) kq
  have G689 : Go p e below A0 (s₁.setTop (mkF m 12 #[.val (.ref tx), .val (.int 0), .val (.ref bb), .val (.int 0), .val (.int 2), .val (.int 0), .unset] [(.int 0), (.ref tx)])) := fun tq kq => G0 tq (by
    refine XS.iconst X0.here hx rfl (hb hby d8_0) ?_
    refine XS.istore X0.here hx rfl (hb hby d8_1) rfl (l' := #[.val (.ref tx), .val (.int 0), .val (.ref bb), .val (.int 0), .val (.int 2), .val (.int 0), .unset]) rfl ?_
    refine XS.iload X0.here hx rfl (hb hby d8_3) rfl ?_
    refine XS.iload X0.here hx rfl (hb hby d8_5) rfl ?_
    refine XS.icmpNo X0.here hx rfl (hb hby d8_7) rfl (by decide) ?_
    refine XS.aloadN X0.here hx rfl (hb hby d8_10) rfl rfl ?_
    refine XS.iloadN X0.here hx rfl (hb hby d8_11) rfl ?_
    exact kq)
  obtain ⟨cl690, Ar690, q690, S690, M690, H690, Gf690⟩ := id At
  have hi691 : ¬ ((0 : Int32) < 0 ∨ cl690.slots.size ≤ ((0 : Int32)).toNatClampNeg) := (inb_of S690 ⟨by decide, by decide⟩)
  have G692 : Go p e below A0 (s₁.setTop (mkF m 31 #[.val (.ref tx), .val (.int 0), .val (.ref bb), .val (.int 0), .val (.int 2), .val (.int 0), .val (.int u0)] [(.int (own_by u0)), (.int 0), (.ref bb)])) := fun tq kq => G689 tq (by
    refine X0.caload hx (j := (0 : Int32)) (v := (.int u0)) (by rw [e0]; exact Ar690.1) (State.isArrayOf_alike hZ.alike Ar690.2.1) Ar690.2.2 hi691 (H690.at hi691 rfl) (g := (mkF m 12 #[.val (.ref tx), .val (.int 0), .val (.ref bb), .val (.int 0), .val (.int 2), .val (.int 0), .unset] [(.int 0), (.ref tx)])) rfl rfl (hb hby d8_12) _ ?_
    show Steps p.tables e below (s₁.setTop (mkF m 13 #[.val (.ref tx), .val (.int 0), .val (.ref bb), .val (.int 0), .val (.int 2), .val (.int 0), .unset] [(.int u0)])) _
    refine XS.istore X0.here hx rfl (hb hby d8_13) rfl (l' := #[.val (.ref tx), .val (.int 0), .val (.ref bb), .val (.int 0), .val (.int 2), .val (.int 0), .val (.int u0)]) rfl ?_
    refine XS.iload X0.here hx rfl (hb hby d8_15) rfl ?_
    refine XS.sipush X0.here hx rfl (hb hby d8_17) ?_
    refine XS.icmpYes X0.here hx rfl (pc0 := 20) (pc' := 26) rfl (hb hby d8_20) rfl (flt lu0).2.2.2 (by decide) (by decide) ?_
    refine XS.aloadN X0.here hx rfl (hb hby d8_26) rfl rfl ?_
    refine XS.iloadN X0.here hx rfl (hb hby d8_27) rfl ?_
    refine XS.iload X0.here hx rfl (hb hby d8_28) rfl ?_
    refine XS.i2b X0.here hx rfl (hb hby d8_30) rfl ?_
    show Steps p.tables e below (s₁.setTop (mkF m 31 #[.val (.ref tx), .val (.int 0), .val (.ref bb), .val (.int 0), .val (.int 2), .val (.int 0), .val (.int u0)] [(.int u0.toInt8.toInt32), (.int 0), (.ref bb)])) _
    rw [show u0.toInt8.toInt32 = (own_by u0) from rfl]
    show Steps p.tables e below (s₁.setTop (mkF m 31 #[.val (.ref tx), .val (.int 0), .val (.ref bb), .val (.int 0), .val (.int 2), .val (.int 0), .val (.int u0)] [(.int (own_by u0)), (.int 0), (.ref bb)])) _
    exact kq)
  obtain ⟨cl693, Ar693, q693, S693, M693, H693, Gf693⟩ := id Ab
  have hi694 : ¬ ((0 : Int32) < 0 ∨ cl693.slots.size ≤ ((0 : Int32)).toNatClampNeg) := (inb_of S693 ⟨by decide, by decide⟩)
  obtain ⟨T695, h695, X695, e695, W695, st695⟩ := stB X0 hx hZ e0 Ar693 (j := (0 : Int32)) hi694 (g := (mkF m 31 #[.val (.ref tx), .val (.int 0), .val (.ref bb), .val (.int 0), .val (.int 2), .val (.int 0), .val (.int u0)] [(.int (own_by u0)), (.int 0), (.ref bb)])) rfl rfl (hb hby d8_31)
  rw [show nar .byte (own_by u0) = (own_by u0) from own_byN _] at W695
  have N695 := Fr.snoc X695 N0 gb
  have V695 := Arv.set Ar693 q693 S693 M693 H693 Gf693 (own_byF _) W695 0 rfl (Nat.le_of_ble_eq_true rfl)
  have V695' : Arv Z h695 bb kb .byte (2 : Int32) [(.int (own_by u0)), (.int 0)] (.int 0) := by exact V695
  have G696 : Go p e below A0 (T695.setTop (mkF m 32 #[.val (.ref tx), .val (.int 0), .val (.ref bb), .val (.int 0), .val (.int 2), .val (.int 0), .val (.int u0)] [])) := fun tq kq => G692 tq (st695 _ kq)
  have G697 : Go p e below A0 (T695.setTop (mkF m 12 #[.val (.ref tx), .val (.int 1), .val (.ref bb), .val (.int 1), .val (.int 2), .val (.int 1), .val (.int u0)] [(.int 1), (.ref tx)])) := fun tq kq => G696 tq (by
    refine XS.iinc X695.here hx rfl (hb hby d8_32) rfl (l' := #[.val (.ref tx), .val (.int ((0 : Int32) + (1 : Int32))), .val (.ref bb), .val (.int 0), .val (.int 2), .val (.int 0), .val (.int u0)]) rfl ?_
    show Steps p.tables e below (T695.setTop (mkF m 35 #[.val (.ref tx), .val (.int ((0 : Int32) + (1 : Int32))), .val (.ref bb), .val (.int 0), .val (.int 2), .val (.int 0), .val (.int u0)] [])) _
    rw [show ((0 : Int32) + (1 : Int32)) = (1 : Int32) from (by decide : ((0 : Int32) + (1 : Int32)) = (1 : Int32))]
    show Steps p.tables e below (T695.setTop (mkF m 35 #[.val (.ref tx), .val (.int 1), .val (.ref bb), .val (.int 0), .val (.int 2), .val (.int 0), .val (.int u0)] [])) _
    refine XS.iinc X695.here hx rfl (hb hby d8_35) rfl (l' := #[.val (.ref tx), .val (.int 1), .val (.ref bb), .val (.int ((0 : Int32) + (1 : Int32))), .val (.int 2), .val (.int 0), .val (.int u0)]) rfl ?_
    show Steps p.tables e below (T695.setTop (mkF m 38 #[.val (.ref tx), .val (.int 1), .val (.ref bb), .val (.int ((0 : Int32) + (1 : Int32))), .val (.int 2), .val (.int 0), .val (.int u0)] [])) _
    rw [show ((0 : Int32) + (1 : Int32)) = (1 : Int32) from (by decide : ((0 : Int32) + (1 : Int32)) = (1 : Int32))]
    show Steps p.tables e below (T695.setTop (mkF m 38 #[.val (.ref tx), .val (.int 1), .val (.ref bb), .val (.int 1), .val (.int 2), .val (.int 0), .val (.int u0)] [])) _
    refine XS.iinc X695.here hx rfl (hb hby d8_38) rfl (l' := #[.val (.ref tx), .val (.int 1), .val (.ref bb), .val (.int 1), .val (.int 2), .val (.int ((0 : Int32) + (1 : Int32))), .val (.int u0)]) rfl ?_
    show Steps p.tables e below (T695.setTop (mkF m 41 #[.val (.ref tx), .val (.int 1), .val (.ref bb), .val (.int 1), .val (.int 2), .val (.int ((0 : Int32) + (1 : Int32))), .val (.int u0)] [])) _
    rw [show ((0 : Int32) + (1 : Int32)) = (1 : Int32) from (by decide : ((0 : Int32) + (1 : Int32)) = (1 : Int32))]
    show Steps p.tables e below (T695.setTop (mkF m 41 #[.val (.ref tx), .val (.int 1), .val (.ref bb), .val (.int 1), .val (.int 2), .val (.int 1), .val (.int u0)] [])) _
    refine XS.goto X695.here hx rfl (pc0 := 41) (pc' := 3) rfl (hb hby d8_41) (by decide) (by decide) ?_
    refine XS.iload X695.here hx rfl (hb hby d8_3) rfl ?_
    refine XS.iload X695.here hx rfl (hb hby d8_5) rfl ?_
    refine XS.icmpNo X695.here hx rfl (hb hby d8_7) rfl (by decide) ?_
    refine XS.aloadN X695.here hx rfl (hb hby d8_10) rfl rfl ?_
    refine XS.iloadN X695.here hx rfl (hb hby d8_11) rfl ?_
    exact kq)
  have f698 := (At.other W695 htb)
  obtain ⟨cl699, Ar699, q699, S699, M699, H699, Gf699⟩ := id f698
  have hi700 : ¬ ((1 : Int32) < 0 ∨ cl699.slots.size ≤ ((1 : Int32)).toNatClampNeg) := (inb_of S699 ⟨by decide, by decide⟩)
  have G701 : Go p e below A0 (T695.setTop (mkF m 25 #[.val (.ref tx), .val (.int 1), .val (.ref bb), .val (.int 1), .val (.int 2), .val (.int 1), .val (.int u1)] [(.int 1)])) := fun tq kq => G697 tq (by
    refine X695.caload hx (j := (1 : Int32)) (v := (.int u1)) (by rw [e695]; exact Ar699.1) (State.isArrayOf_alike hZ.alike Ar699.2.1) Ar699.2.2 hi700 (H699.at hi700 rfl) (g := (mkF m 12 #[.val (.ref tx), .val (.int 1), .val (.ref bb), .val (.int 1), .val (.int 2), .val (.int 1), .val (.int u0)] [(.int 1), (.ref tx)])) rfl rfl (hb hby d8_12) _ ?_
    show Steps p.tables e below (T695.setTop (mkF m 13 #[.val (.ref tx), .val (.int 1), .val (.ref bb), .val (.int 1), .val (.int 2), .val (.int 1), .val (.int u0)] [(.int u1)])) _
    refine XS.istore X695.here hx rfl (hb hby d8_13) rfl (l' := #[.val (.ref tx), .val (.int 1), .val (.ref bb), .val (.int 1), .val (.int 2), .val (.int 1), .val (.int u1)]) rfl ?_
    refine XS.iload X695.here hx rfl (hb hby d8_15) rfl ?_
    refine XS.sipush X695.here hx rfl (hb hby d8_17) ?_
    refine XS.icmpNo X695.here hx rfl (hb hby d8_20) rfl (tlt gu).2.2.2 ?_
    refine XS.iload X695.here hx rfl (hb hby d8_23) rfl ?_
    exact kq)
  obtain ⟨fs, hr, hrun, hended, hW, hsame⟩ := X695.leave (v := some (.int 1)) (fun h => by rw [Bd.returns] at h; cases h)
  refine ⟨_, _, (by rw [← hA0]; exact G701 _ (retOut X695 hx (t := .int) Bd.returns rfl (Or.inl ⟨rfl, Or.inl rfl, _, rfl⟩) (hb hby d8_25) hr)), hrun, hended, _, _, rfl, ?_, ⟨_, rfl⟩, hW, hsame.mono (by decide) (by decide)⟩
  show Qk21 Z bb kb u0 u1 h0 n0 _ T695.heap _
  rw [e695]
  exact ⟨rfl, N695, ((Keep.refl h0 [bb]).wr W695 (Or.inl (List.mem_of_getElem? (i := 0) rfl)))⟩
def Qk22 (Z : State) (bb : Addr) (kb : ClassId) (u0 u1 : Int32) (h0 : Heap) (n0 : Nat) (v : Option Value) (h : Heap) (L : List Loc) : Prop := v = some (.int 2) ∧ Fr n0 L ∧ Keep h0 h [bb] ∧ Arv Z h bb kb .byte (2 : Int32) [(.int (own_by u0)), (.int (own_by u1))] (.int 0)
set_option maxRecDepth 65536 in
set_option maxHeartbeats 40000000 in
theorem rmK22 (l : Launch) (Z : State) (a0 : Array Value) (hw : ∀ d ∈ tables_1, d.before a0 Z = true) (ws : List Jvm.Cond) (tx bb : Addr) (kt kb : ClassId) (u0 u1 : Int32) (h0 : Heap) (n0 : Nat) (Z0 : n0 ≤ h0.size) (At : Arv Z h0 tx kt .char (2 : Int32) [(.int u0), (.int u1)] (.int 0)) (Ab : Arv Z h0 bb kb .byte (2 : Int32) [(.int 0), (.int 0)] (.int 0)) (gb : n0 ≤ bb) (htb : tx ≠ bb) (ru0 : own_R u0) (ru1 : own_R u1) (lu0 : ¬ (255 : Int32) < u0) (lu1 : ¬ (255 : Int32) < u1) :
    MetFree l (⟨"java/lang/StringUTF16", "compress", "([CI[BII)I"⟩ : MethodName) (head1 (Jvm.Cond.code (⟨"java/lang/StringUTF16", "compress", "([CI[BII)I"⟩ : MethodName) jdk_52_method_21_code 7 (some .int) :: ws) (Rm 0 0 0 0)) (fun aa UU => aa = #[(.ref tx), (.int 0), (.ref bb), (.int 0), (.int 2)] ∧ Z.Warmed39 UU.vm ∧ UU.heap = h0) (fun _ _ _ _ _ => True) (fun _ UU oo U' => ∃ v L, oo = .returned v ∧ Qk22 Z bb kb u0 u1 h0 n0 v U'.heap L ∧ FrameEnd UU oo U' L (Rm 0 0 0 0).cells (Rm 0 0 0 0).slots) := by
  refine MetFree.of_bodySF (plainFor_of_name pn_2) hisR ?_
  intro p e s m args below meth c s₁ Bd hml0 hP hK
  obtain ⟨rfl, hZ, hh⟩ := hP
  have hx := Bd.exec
  have hby := Bd.bytes
  have hml : c.maxLocals = 7 := hml0
  have hown : s.vm.findClass "java/lang/StringUTF16" = some m.cls := findClass_of_methodNamed Bd.named
  have hnm := (name_of_methodNamed Bd.named Bd.method).1
  have X0 : Stand p l e (Rm 0 0 0 0) s m #[(.ref tx), (.int 0), (.ref bb), (.int 0), (.int 2)] below meth c s₁ [] 0 0 := Stand.of_body Bd
  have e0 : s₁.heap = h0 := by rw [← hh, Bd.state]; rfl
  have N0 := Fr.nil n0
  obtain ⟨A0, hA0⟩ : ∃ A, A = s₁.setTop (entryFrame m #[(.ref tx), (.int 0), (.ref bb), (.int 0), (.int 2)] 7) := ⟨_, rfl⟩
  have G0 : Go p e below A0 (s₁.setTop (mkF m 0 #[.val (.ref tx), .val (.int 0), .val (.ref bb), .val (.int 0), .val (.int 2), .unset, .unset] [])) := fun tq kq => by rw [hA0]; exact castTop (ef_rmK22 m tx (0 : Int32) bb (0 : Int32) (2 : Int32)) kq
  have G702 : Go p e below A0 (s₁.setTop (mkF m 12 #[.val (.ref tx), .val (.int 0), .val (.ref bb), .val (.int 0), .val (.int 2), .val (.int 0), .unset] [(.int 0), (.ref tx)])) := fun tq kq => G0 tq (by
    refine XS.iconst X0.here hx rfl (hb hby d8_0) ?_
    refine XS.istore X0.here hx rfl (hb hby d8_1) rfl (l' := #[.val (.ref tx), .val (.int 0), .val (.ref bb), .val (.int 0), .val (.int 2), .val (.int 0), .unset]) rfl ?_
    refine XS.iload X0.here hx rfl (hb hby d8_3) rfl ?_
    refine XS.iload X0.here hx rfl (hb hby d8_5) rfl ?_
    refine XS.icmpNo X0.here hx rfl (hb hby d8_7) rfl (by decide) ?_
    refine XS.aloadN X0.here hx rfl (hb hby d8_10) rfl rfl ?_
    refine XS.iloadN X0.here hx rfl (hb hby d8_11) rfl ?_
    exact kq)
  obtain ⟨cl703, Ar703, q703, S703, M703, H703, Gf703⟩ := id At
  have hi704 : ¬ ((0 : Int32) < 0 ∨ cl703.slots.size ≤ ((0 : Int32)).toNatClampNeg) := (inb_of S703 ⟨by decide, by decide⟩)
  have G705 : Go p e below A0 (s₁.setTop (mkF m 31 #[.val (.ref tx), .val (.int 0), .val (.ref bb), .val (.int 0), .val (.int 2), .val (.int 0), .val (.int u0)] [(.int (own_by u0)), (.int 0), (.ref bb)])) := fun tq kq => G702 tq (by
    refine X0.caload hx (j := (0 : Int32)) (v := (.int u0)) (by rw [e0]; exact Ar703.1) (State.isArrayOf_alike hZ.alike Ar703.2.1) Ar703.2.2 hi704 (H703.at hi704 rfl) (g := (mkF m 12 #[.val (.ref tx), .val (.int 0), .val (.ref bb), .val (.int 0), .val (.int 2), .val (.int 0), .unset] [(.int 0), (.ref tx)])) rfl rfl (hb hby d8_12) _ ?_
    show Steps p.tables e below (s₁.setTop (mkF m 13 #[.val (.ref tx), .val (.int 0), .val (.ref bb), .val (.int 0), .val (.int 2), .val (.int 0), .unset] [(.int u0)])) _
    refine XS.istore X0.here hx rfl (hb hby d8_13) rfl (l' := #[.val (.ref tx), .val (.int 0), .val (.ref bb), .val (.int 0), .val (.int 2), .val (.int 0), .val (.int u0)]) rfl ?_
    refine XS.iload X0.here hx rfl (hb hby d8_15) rfl ?_
    refine XS.sipush X0.here hx rfl (hb hby d8_17) ?_
    refine XS.icmpYes X0.here hx rfl (pc0 := 20) (pc' := 26) rfl (hb hby d8_20) rfl (flt lu0).2.2.2 (by decide) (by decide) ?_
    refine XS.aloadN X0.here hx rfl (hb hby d8_26) rfl rfl ?_
    refine XS.iloadN X0.here hx rfl (hb hby d8_27) rfl ?_
    refine XS.iload X0.here hx rfl (hb hby d8_28) rfl ?_
    refine XS.i2b X0.here hx rfl (hb hby d8_30) rfl ?_
    show Steps p.tables e below (s₁.setTop (mkF m 31 #[.val (.ref tx), .val (.int 0), .val (.ref bb), .val (.int 0), .val (.int 2), .val (.int 0), .val (.int u0)] [(.int u0.toInt8.toInt32), (.int 0), (.ref bb)])) _
    rw [show u0.toInt8.toInt32 = (own_by u0) from rfl]
    show Steps p.tables e below (s₁.setTop (mkF m 31 #[.val (.ref tx), .val (.int 0), .val (.ref bb), .val (.int 0), .val (.int 2), .val (.int 0), .val (.int u0)] [(.int (own_by u0)), (.int 0), (.ref bb)])) _
    exact kq)
  obtain ⟨cl706, Ar706, q706, S706, M706, H706, Gf706⟩ := id Ab
  have hi707 : ¬ ((0 : Int32) < 0 ∨ cl706.slots.size ≤ ((0 : Int32)).toNatClampNeg) := (inb_of S706 ⟨by decide, by decide⟩)
  obtain ⟨T708, h708, X708, e708, W708, st708⟩ := stB X0 hx hZ e0 Ar706 (j := (0 : Int32)) hi707 (g := (mkF m 31 #[.val (.ref tx), .val (.int 0), .val (.ref bb), .val (.int 0), .val (.int 2), .val (.int 0), .val (.int u0)] [(.int (own_by u0)), (.int 0), (.ref bb)])) rfl rfl (hb hby d8_31)
  rw [show nar .byte (own_by u0) = (own_by u0) from own_byN _] at W708
  have N708 := Fr.snoc X708 N0 gb
  have V708 := Arv.set Ar706 q706 S706 M706 H706 Gf706 (own_byF _) W708 0 rfl (Nat.le_of_ble_eq_true rfl)
  have V708' : Arv Z h708 bb kb .byte (2 : Int32) [(.int (own_by u0)), (.int 0)] (.int 0) := by exact V708
  have G709 : Go p e below A0 (T708.setTop (mkF m 32 #[.val (.ref tx), .val (.int 0), .val (.ref bb), .val (.int 0), .val (.int 2), .val (.int 0), .val (.int u0)] [])) := fun tq kq => G705 tq (st708 _ kq)
  have G710 : Go p e below A0 (T708.setTop (mkF m 12 #[.val (.ref tx), .val (.int 1), .val (.ref bb), .val (.int 1), .val (.int 2), .val (.int 1), .val (.int u0)] [(.int 1), (.ref tx)])) := fun tq kq => G709 tq (by
    refine XS.iinc X708.here hx rfl (hb hby d8_32) rfl (l' := #[.val (.ref tx), .val (.int ((0 : Int32) + (1 : Int32))), .val (.ref bb), .val (.int 0), .val (.int 2), .val (.int 0), .val (.int u0)]) rfl ?_
    show Steps p.tables e below (T708.setTop (mkF m 35 #[.val (.ref tx), .val (.int ((0 : Int32) + (1 : Int32))), .val (.ref bb), .val (.int 0), .val (.int 2), .val (.int 0), .val (.int u0)] [])) _
    rw [show ((0 : Int32) + (1 : Int32)) = (1 : Int32) from (by decide : ((0 : Int32) + (1 : Int32)) = (1 : Int32))]
    show Steps p.tables e below (T708.setTop (mkF m 35 #[.val (.ref tx), .val (.int 1), .val (.ref bb), .val (.int 0), .val (.int 2), .val (.int 0), .val (.int u0)] [])) _
    refine XS.iinc X708.here hx rfl (hb hby d8_35) rfl (l' := #[.val (.ref tx), .val (.int 1), .val (.ref bb), .val (.int ((0 : Int32) + (1 : Int32))), .val (.int 2), .val (.int 0), .val (.int u0)]) rfl ?_
    show Steps p.tables e below (T708.setTop (mkF m 38 #[.val (.ref tx), .val (.int 1), .val (.ref bb), .val (.int ((0 : Int32) + (1 : Int32))), .val (.int 2), .val (.int 0), .val (.int u0)] [])) _
    rw [show ((0 : Int32) + (1 : Int32)) = (1 : Int32) from (by decide : ((0 : Int32) + (1 : Int32)) = (1 : Int32))]
    show Steps p.tables e below (T708.setTop (mkF m 38 #[.val (.ref tx), .val (.int 1), .val (.ref bb), .val (.int 1), .val (.int 2), .val (.int 0), .val (.int u0)] [])) _
    refine XS.iinc X708.here hx rfl (hb hby d8_38) rfl (l' := #[.val (.ref tx), .val (.int 1), .val (.ref bb), .val (.int 1), .val (.int 2), .val (.int ((0 : Int32) + (1 : Int32))), .val (.int u0)]) rfl ?_
    show Steps p.tables e below (T708.setTop (mkF m 41 #[.val (.ref tx), .val (.int 1), .val (.ref bb), .val (.int 1), .val (.int 2), .val (.int ((0 : Int32) + (1 : Int32))), .val (.int u0)] [])) _
    rw [show ((0 : Int32) + (1 : Int32)) = (1 : Int32) from (by decide : ((0 : Int32) + (1 : Int32)) = (1 : Int32))]
    show Steps p.tables e below (T708.setTop (mkF m 41 #[.val (.ref tx), .val (.int 1), .val (.ref bb), .val (.int 1), .val (.int 2), .val (.int 1), .val (.int u0)] [])) _
    refine XS.goto X708.here hx rfl (pc0 := 41) (pc' := 3) rfl (hb hby d8_41) (by decide) (by decide) ?_
    refine XS.iload X708.here hx rfl (hb hby d8_3) rfl ?_
    refine XS.iload X708.here hx rfl (hb hby d8_5) rfl ?_
    refine XS.icmpNo X708.here hx rfl (hb hby d8_7) rfl (by decide) ?_
    refine XS.aloadN X708.here hx rfl (hb hby d8_10) rfl rfl ?_
    refine XS.iloadN X708.here hx rfl (hb hby d8_11) rfl ?_
    exact kq)
  have f711 := (At.other W708 htb)
  obtain ⟨cl712, Ar712, q712, S712, M712, H712, Gf712⟩ := id f711
  have hi713 : ¬ ((1 : Int32) < 0 ∨ cl712.slots.size ≤ ((1 : Int32)).toNatClampNeg) := (inb_of S712 ⟨by decide, by decide⟩)
  have G714 : Go p e below A0 (T708.setTop (mkF m 31 #[.val (.ref tx), .val (.int 1), .val (.ref bb), .val (.int 1), .val (.int 2), .val (.int 1), .val (.int u1)] [(.int (own_by u1)), (.int 1), (.ref bb)])) := fun tq kq => G710 tq (by
    refine X708.caload hx (j := (1 : Int32)) (v := (.int u1)) (by rw [e708]; exact Ar712.1) (State.isArrayOf_alike hZ.alike Ar712.2.1) Ar712.2.2 hi713 (H712.at hi713 rfl) (g := (mkF m 12 #[.val (.ref tx), .val (.int 1), .val (.ref bb), .val (.int 1), .val (.int 2), .val (.int 1), .val (.int u0)] [(.int 1), (.ref tx)])) rfl rfl (hb hby d8_12) _ ?_
    show Steps p.tables e below (T708.setTop (mkF m 13 #[.val (.ref tx), .val (.int 1), .val (.ref bb), .val (.int 1), .val (.int 2), .val (.int 1), .val (.int u0)] [(.int u1)])) _
    refine XS.istore X708.here hx rfl (hb hby d8_13) rfl (l' := #[.val (.ref tx), .val (.int 1), .val (.ref bb), .val (.int 1), .val (.int 2), .val (.int 1), .val (.int u1)]) rfl ?_
    refine XS.iload X708.here hx rfl (hb hby d8_15) rfl ?_
    refine XS.sipush X708.here hx rfl (hb hby d8_17) ?_
    refine XS.icmpYes X708.here hx rfl (pc0 := 20) (pc' := 26) rfl (hb hby d8_20) rfl (flt lu1).2.2.2 (by decide) (by decide) ?_
    refine XS.aloadN X708.here hx rfl (hb hby d8_26) rfl rfl ?_
    refine XS.iloadN X708.here hx rfl (hb hby d8_27) rfl ?_
    refine XS.iload X708.here hx rfl (hb hby d8_28) rfl ?_
    refine XS.i2b X708.here hx rfl (hb hby d8_30) rfl ?_
    show Steps p.tables e below (T708.setTop (mkF m 31 #[.val (.ref tx), .val (.int 1), .val (.ref bb), .val (.int 1), .val (.int 2), .val (.int 1), .val (.int u1)] [(.int u1.toInt8.toInt32), (.int 1), (.ref bb)])) _
    rw [show u1.toInt8.toInt32 = (own_by u1) from rfl]
    show Steps p.tables e below (T708.setTop (mkF m 31 #[.val (.ref tx), .val (.int 1), .val (.ref bb), .val (.int 1), .val (.int 2), .val (.int 1), .val (.int u1)] [(.int (own_by u1)), (.int 1), (.ref bb)])) _
    exact kq)
  obtain ⟨cl715, Ar715, q715, S715, M715, H715, Gf715⟩ := id V708'
  have hi716 : ¬ ((1 : Int32) < 0 ∨ cl715.slots.size ≤ ((1 : Int32)).toNatClampNeg) := (inb_of S715 ⟨by decide, by decide⟩)
  obtain ⟨T717, h717, X717, e717, W717, st717⟩ := stB X708 hx hZ e708 Ar715 (j := (1 : Int32)) hi716 (g := (mkF m 31 #[.val (.ref tx), .val (.int 1), .val (.ref bb), .val (.int 1), .val (.int 2), .val (.int 1), .val (.int u1)] [(.int (own_by u1)), (.int 1), (.ref bb)])) rfl rfl (hb hby d8_31)
  rw [show nar .byte (own_by u1) = (own_by u1) from own_byN _] at W717
  have N717 := Fr.snoc X717 N708 gb
  have V717 := Arv.set Ar715 q715 S715 M715 H715 Gf715 (own_byF _) W717 1 rfl (Nat.le_of_ble_eq_true rfl)
  have V717' : Arv Z h717 bb kb .byte (2 : Int32) [(.int (own_by u0)), (.int (own_by u1))] (.int 0) := by exact V717
  have G718 : Go p e below A0 (T717.setTop (mkF m 32 #[.val (.ref tx), .val (.int 1), .val (.ref bb), .val (.int 1), .val (.int 2), .val (.int 1), .val (.int u1)] [])) := fun tq kq => G714 tq (st717 _ kq)
  have G719 : Go p e below A0 (T717.setTop (mkF m 46 #[.val (.ref tx), .val (.int 2), .val (.ref bb), .val (.int 2), .val (.int 2), .val (.int 2), .val (.int u1)] [(.int 2)])) := fun tq kq => G718 tq (by
    refine XS.iinc X717.here hx rfl (hb hby d8_32) rfl (l' := #[.val (.ref tx), .val (.int ((1 : Int32) + (1 : Int32))), .val (.ref bb), .val (.int 1), .val (.int 2), .val (.int 1), .val (.int u1)]) rfl ?_
    show Steps p.tables e below (T717.setTop (mkF m 35 #[.val (.ref tx), .val (.int ((1 : Int32) + (1 : Int32))), .val (.ref bb), .val (.int 1), .val (.int 2), .val (.int 1), .val (.int u1)] [])) _
    rw [show ((1 : Int32) + (1 : Int32)) = (2 : Int32) from (by decide : ((1 : Int32) + (1 : Int32)) = (2 : Int32))]
    show Steps p.tables e below (T717.setTop (mkF m 35 #[.val (.ref tx), .val (.int 2), .val (.ref bb), .val (.int 1), .val (.int 2), .val (.int 1), .val (.int u1)] [])) _
    refine XS.iinc X717.here hx rfl (hb hby d8_35) rfl (l' := #[.val (.ref tx), .val (.int 2), .val (.ref bb), .val (.int ((1 : Int32) + (1 : Int32))), .val (.int 2), .val (.int 1), .val (.int u1)]) rfl ?_
    show Steps p.tables e below (T717.setTop (mkF m 38 #[.val (.ref tx), .val (.int 2), .val (.ref bb), .val (.int ((1 : Int32) + (1 : Int32))), .val (.int 2), .val (.int 1), .val (.int u1)] [])) _
    rw [show ((1 : Int32) + (1 : Int32)) = (2 : Int32) from (by decide : ((1 : Int32) + (1 : Int32)) = (2 : Int32))]
    show Steps p.tables e below (T717.setTop (mkF m 38 #[.val (.ref tx), .val (.int 2), .val (.ref bb), .val (.int 2), .val (.int 2), .val (.int 1), .val (.int u1)] [])) _
    refine XS.iinc X717.here hx rfl (hb hby d8_38) rfl (l' := #[.val (.ref tx), .val (.int 2), .val (.ref bb), .val (.int 2), .val (.int 2), .val (.int ((1 : Int32) + (1 : Int32))), .val (.int u1)]) rfl ?_
    show Steps p.tables e below (T717.setTop (mkF m 41 #[.val (.ref tx), .val (.int 2), .val (.ref bb), .val (.int 2), .val (.int 2), .val (.int ((1 : Int32) + (1 : Int32))), .val (.int u1)] [])) _
    rw [show ((1 : Int32) + (1 : Int32)) = (2 : Int32) from (by decide : ((1 : Int32) + (1 : Int32)) = (2 : Int32))]
    show Steps p.tables e below (T717.setTop (mkF m 41 #[.val (.ref tx), .val (.int 2), .val (.ref bb), .val (.int 2), .val (.int 2), .val (.int 2), .val (.int u1)] [])) _
    refine XS.goto X717.here hx rfl (pc0 := 41) (pc' := 3) rfl (hb hby d8_41) (by decide) (by decide) ?_
    refine XS.iload X717.here hx rfl (hb hby d8_3) rfl ?_
    refine XS.iload X717.here hx rfl (hb hby d8_5) rfl ?_
    refine XS.icmpYes X717.here hx rfl (pc0 := 7) (pc' := 44) rfl (hb hby d8_7) rfl (by decide) (by decide) (by decide) ?_
    refine XS.iload X717.here hx rfl (hb hby d8_44) rfl ?_
    exact kq)
  obtain ⟨fs, hr, hrun, hended, hW, hsame⟩ := X717.leave (v := some (.int 2)) (fun h => by rw [Bd.returns] at h; cases h)
  refine ⟨_, _, (by rw [← hA0]; exact G719 _ (retOut X717 hx (t := .int) Bd.returns rfl (Or.inl ⟨rfl, Or.inl rfl, _, rfl⟩) (hb hby d8_46) hr)), hrun, hended, _, _, rfl, ?_, ⟨_, rfl⟩, hW, hsame.mono (by decide) (by decide)⟩
  show Qk22 Z bb kb u0 u1 h0 n0 _ T717.heap _
  rw [e717]
  exact ⟨rfl, N717, (((Keep.refl h0 [bb]).wr W708 (Or.inl (List.mem_of_getElem? (i := 0) rfl))).wr W717 (Or.inl (List.mem_of_getElem? (i := 0) rfl))), V717'⟩
def Qk30 (Z : State) (bb : Addr) (kb : ClassId) (u0 u1 u2 : Int32) (h0 : Heap) (n0 : Nat) (v : Option Value) (h : Heap) (L : List Loc) : Prop := v = some (.int 0) ∧ Fr n0 L ∧ Keep h0 h [bb]
set_option maxRecDepth 65536 in
set_option maxHeartbeats 40000000 in
theorem rmK30 (l : Launch) (Z : State) (a0 : Array Value) (hw : ∀ d ∈ tables_1, d.before a0 Z = true) (ws : List Jvm.Cond) (tx bb : Addr) (kt kb : ClassId) (u0 u1 u2 : Int32) (h0 : Heap) (n0 : Nat) (Z0 : n0 ≤ h0.size) (At : Arv Z h0 tx kt .char (3 : Int32) [(.int u0), (.int u1), (.int u2)] (.int 0)) (Ab : Arv Z h0 bb kb .byte (3 : Int32) [(.int 0), (.int 0), (.int 0)] (.int 0)) (gb : n0 ≤ bb) (htb : tx ≠ bb) (ru0 : own_R u0) (ru1 : own_R u1) (ru2 : own_R u2) (gu : (255 : Int32) < u0) :
    MetFree l (⟨"java/lang/StringUTF16", "compress", "([CI[BII)I"⟩ : MethodName) (head1 (Jvm.Cond.code (⟨"java/lang/StringUTF16", "compress", "([CI[BII)I"⟩ : MethodName) jdk_52_method_21_code 7 (some .int) :: ws) (Rm 0 0 0 0)) (fun aa UU => aa = #[(.ref tx), (.int 0), (.ref bb), (.int 0), (.int 3)] ∧ Z.Warmed39 UU.vm ∧ UU.heap = h0) (fun _ _ _ _ _ => True) (fun _ UU oo U' => ∃ v L, oo = .returned v ∧ Qk30 Z bb kb u0 u1 u2 h0 n0 v U'.heap L ∧ FrameEnd UU oo U' L (Rm 0 0 0 0).cells (Rm 0 0 0 0).slots) := by
  refine MetFree.of_bodySF (plainFor_of_name pn_2) hisR ?_
  intro p e s m args below meth c s₁ Bd hml0 hP hK
  obtain ⟨rfl, hZ, hh⟩ := hP
  have hx := Bd.exec
  have hby := Bd.bytes
  have hml : c.maxLocals = 7 := hml0
  have hown : s.vm.findClass "java/lang/StringUTF16" = some m.cls := findClass_of_methodNamed Bd.named
  have hnm := (name_of_methodNamed Bd.named Bd.method).1
  have X0 : Stand p l e (Rm 0 0 0 0) s m #[(.ref tx), (.int 0), (.ref bb), (.int 0), (.int 3)] below meth c s₁ [] 0 0 := Stand.of_body Bd
  have e0 : s₁.heap = h0 := by rw [← hh, Bd.state]; rfl
  have N0 := Fr.nil n0
  obtain ⟨A0, hA0⟩ : ∃ A, A = s₁.setTop (entryFrame m #[(.ref tx), (.int 0), (.ref bb), (.int 0), (.int 3)] 7) := ⟨_, rfl⟩
  have G0 : Go p e below A0 (s₁.setTop (mkF m 0 #[.val (.ref tx), .val (.int 0), .val (.ref bb), .val (.int 0), .val (.int 3), .unset, .unset] [])) := fun tq kq => by rw [hA0]; exact castTop (ef_rmK30 m tx (0 : Int32) bb (0 : Int32) (3 : Int32)) kq
  have G720 : Go p e below A0 (s₁.setTop (mkF m 12 #[.val (.ref tx), .val (.int 0), .val (.ref bb), .val (.int 0), .val (.int 3), .val (.int 0), .unset] [(.int 0), (.ref tx)])) := fun tq kq => G0 tq (by
    refine XS.iconst X0.here hx rfl (hb hby d8_0) ?_
    refine XS.istore X0.here hx rfl (hb hby d8_1) rfl (l' := #[.val (.ref tx), .val (.int 0), .val (.ref bb), .val (.int 0), .val (.int 3), .val (.int 0), .unset]) rfl ?_
    refine XS.iload X0.here hx rfl (hb hby d8_3) rfl ?_
    refine XS.iload X0.here hx rfl (hb hby d8_5) rfl ?_
    refine XS.icmpNo X0.here hx rfl (hb hby d8_7) rfl (by decide) ?_
    refine XS.aloadN X0.here hx rfl (hb hby d8_10) rfl rfl ?_
    refine XS.iloadN X0.here hx rfl (hb hby d8_11) rfl ?_
    exact kq)
  obtain ⟨cl721, Ar721, q721, S721, M721, H721, Gf721⟩ := id At
  have hi722 : ¬ ((0 : Int32) < 0 ∨ cl721.slots.size ≤ ((0 : Int32)).toNatClampNeg) := (inb_of S721 ⟨by decide, by decide⟩)
  have G723 : Go p e below A0 (s₁.setTop (mkF m 25 #[.val (.ref tx), .val (.int 0), .val (.ref bb), .val (.int 0), .val (.int 3), .val (.int 0), .val (.int u0)] [(.int 0)])) := fun tq kq => G720 tq (by
    refine X0.caload hx (j := (0 : Int32)) (v := (.int u0)) (by rw [e0]; exact Ar721.1) (State.isArrayOf_alike hZ.alike Ar721.2.1) Ar721.2.2 hi722 (H721.at hi722 rfl) (g := (mkF m 12 #[.val (.ref tx), .val (.int 0), .val (.ref bb), .val (.int 0), .val (.int 3), .val (.int 0), .unset] [(.int 0), (.ref tx)])) rfl rfl (hb hby d8_12) _ ?_
    show Steps p.tables e below (s₁.setTop (mkF m 13 #[.val (.ref tx), .val (.int 0), .val (.ref bb), .val (.int 0), .val (.int 3), .val (.int 0), .unset] [(.int u0)])) _
    refine XS.istore X0.here hx rfl (hb hby d8_13) rfl (l' := #[.val (.ref tx), .val (.int 0), .val (.ref bb), .val (.int 0), .val (.int 3), .val (.int 0), .val (.int u0)]) rfl ?_
    refine XS.iload X0.here hx rfl (hb hby d8_15) rfl ?_
    refine XS.sipush X0.here hx rfl (hb hby d8_17) ?_
    refine XS.icmpNo X0.here hx rfl (hb hby d8_20) rfl (tlt gu).2.2.2 ?_
    refine XS.iload X0.here hx rfl (hb hby d8_23) rfl ?_
    exact kq)
  obtain ⟨fs, hr, hrun, hended, hW, hsame⟩ := X0.leave (v := some (.int 0)) (fun h => by rw [Bd.returns] at h; cases h)
  refine ⟨_, _, (by rw [← hA0]; exact G723 _ (retOut X0 hx (t := .int) Bd.returns rfl (Or.inl ⟨rfl, Or.inl rfl, _, rfl⟩) (hb hby d8_25) hr)), hrun, hended, _, _, rfl, ?_, ⟨_, rfl⟩, hW, hsame.mono (by decide) (by decide)⟩
  show Qk30 Z bb kb u0 u1 u2 h0 n0 _ s₁.heap _
  rw [e0]
  exact ⟨rfl, N0, (Keep.refl h0 [bb])⟩
def Qk31 (Z : State) (bb : Addr) (kb : ClassId) (u0 u1 u2 : Int32) (h0 : Heap) (n0 : Nat) (v : Option Value) (h : Heap) (L : List Loc) : Prop := v = some (.int 1) ∧ Fr n0 L ∧ Keep h0 h [bb]
set_option maxRecDepth 65536 in
set_option maxHeartbeats 40000000 in
theorem rmK31 (l : Launch) (Z : State) (a0 : Array Value) (hw : ∀ d ∈ tables_1, d.before a0 Z = true) (ws : List Jvm.Cond) (tx bb : Addr) (kt kb : ClassId) (u0 u1 u2 : Int32) (h0 : Heap) (n0 : Nat) (Z0 : n0 ≤ h0.size) (At : Arv Z h0 tx kt .char (3 : Int32) [(.int u0), (.int u1), (.int u2)] (.int 0)) (Ab : Arv Z h0 bb kb .byte (3 : Int32) [(.int 0), (.int 0), (.int 0)] (.int 0)) (gb : n0 ≤ bb) (htb : tx ≠ bb) (ru0 : own_R u0) (ru1 : own_R u1) (ru2 : own_R u2) (lu0 : ¬ (255 : Int32) < u0) (gu : (255 : Int32) < u1) :
    MetFree l (⟨"java/lang/StringUTF16", "compress", "([CI[BII)I"⟩ : MethodName) (head1 (Jvm.Cond.code (⟨"java/lang/StringUTF16", "compress", "([CI[BII)I"⟩ : MethodName) jdk_52_method_21_code 7 (some .int) :: ws) (Rm 0 0 0 0)) (fun aa UU => aa = #[(.ref tx), (.int 0), (.ref bb), (.int 0), (.int 3)] ∧ Z.Warmed39 UU.vm ∧ UU.heap = h0) (fun _ _ _ _ _ => True) (fun _ UU oo U' => ∃ v L, oo = .returned v ∧ Qk31 Z bb kb u0 u1 u2 h0 n0 v U'.heap L ∧ FrameEnd UU oo U' L (Rm 0 0 0 0).cells (Rm 0 0 0 0).slots) := by
  refine MetFree.of_bodySF (plainFor_of_name pn_2) hisR ?_
  intro p e s m args below meth c s₁ Bd hml0 hP hK
  obtain ⟨rfl, hZ, hh⟩ := hP
  have hx := Bd.exec
  have hby := Bd.bytes
  have hml : c.maxLocals = 7 := hml0
  have hown : s.vm.findClass "java/lang/StringUTF16" = some m.cls := findClass_of_methodNamed Bd.named
  have hnm := (name_of_methodNamed Bd.named Bd.method).1
  have X0 : Stand p l e (Rm 0 0 0 0) s m #[(.ref tx), (.int 0), (.ref bb), (.int 0), (.int 3)] below meth c s₁ [] 0 0 := Stand.of_body Bd
  have e0 : s₁.heap = h0 := by rw [← hh, Bd.state]; rfl
  have N0 := Fr.nil n0
  obtain ⟨A0, hA0⟩ : ∃ A, A = s₁.setTop (entryFrame m #[(.ref tx), (.int 0), (.ref bb), (.int 0), (.int 3)] 7) := ⟨_, rfl⟩
  have G0 : Go p e below A0 (s₁.setTop (mkF m 0 #[.val (.ref tx), .val (.int 0), .val (.ref bb), .val (.int 0), .val (.int 3), .unset, .unset] [])) := fun tq kq => by rw [hA0]; exact castTop (ef_rmK31 m tx (0 : Int32) bb (0 : Int32) (3 : Int32)) kq
  have G724 : Go p e below A0 (s₁.setTop (mkF m 12 #[.val (.ref tx), .val (.int 0), .val (.ref bb), .val (.int 0), .val (.int 3), .val (.int 0), .unset] [(.int 0), (.ref tx)])) := fun tq kq => G0 tq (by
    refine XS.iconst X0.here hx rfl (hb hby d8_0) ?_
    refine XS.istore X0.here hx rfl (hb hby d8_1) rfl (l' := #[.val (.ref tx), .val (.int 0), .val (.ref bb), .val (.int 0), .val (.int 3), .val (.int 0), .unset]) rfl ?_
    refine XS.iload X0.here hx rfl (hb hby d8_3) rfl ?_
    refine XS.iload X0.here hx rfl (hb hby d8_5) rfl ?_
    refine XS.icmpNo X0.here hx rfl (hb hby d8_7) rfl (by decide) ?_
    refine XS.aloadN X0.here hx rfl (hb hby d8_10) rfl rfl ?_
    refine XS.iloadN X0.here hx rfl (hb hby d8_11) rfl ?_
    exact kq)
  obtain ⟨cl725, Ar725, q725, S725, M725, H725, Gf725⟩ := id At
  have hi726 : ¬ ((0 : Int32) < 0 ∨ cl725.slots.size ≤ ((0 : Int32)).toNatClampNeg) := (inb_of S725 ⟨by decide, by decide⟩)
  have G727 : Go p e below A0 (s₁.setTop (mkF m 31 #[.val (.ref tx), .val (.int 0), .val (.ref bb), .val (.int 0), .val (.int 3), .val (.int 0), .val (.int u0)] [(.int (own_by u0)), (.int 0), (.ref bb)])) := fun tq kq => G724 tq (by
    refine X0.caload hx (j := (0 : Int32)) (v := (.int u0)) (by rw [e0]; exact Ar725.1) (State.isArrayOf_alike hZ.alike Ar725.2.1) Ar725.2.2 hi726 (H725.at hi726 rfl) (g := (mkF m 12 #[.val (.ref tx), .val (.int 0), .val (.ref bb), .val (.int 0), .val (.int 3), .val (.int 0), .unset] [(.int 0), (.ref tx)])) rfl rfl (hb hby d8_12) _ ?_
    show Steps p.tables e below (s₁.setTop (mkF m 13 #[.val (.ref tx), .val (.int 0), .val (.ref bb), .val (.int 0), .val (.int 3), .val (.int 0), .unset] [(.int u0)])) _
    refine XS.istore X0.here hx rfl (hb hby d8_13) rfl (l' := #[.val (.ref tx), .val (.int 0), .val (.ref bb), .val (.int 0), .val (.int 3), .val (.int 0), .val (.int u0)]) rfl ?_
    refine XS.iload X0.here hx rfl (hb hby d8_15) rfl ?_
    refine XS.sipush X0.here hx rfl (hb hby d8_17) ?_
    refine XS.icmpYes X0.here hx rfl (pc0 := 20) (pc' := 26) rfl (hb hby d8_20) rfl (flt lu0).2.2.2 (by decide) (by decide) ?_
    refine XS.aloadN X0.here hx rfl (hb hby d8_26) rfl rfl ?_
    refine XS.iloadN X0.here hx rfl (hb hby d8_27) rfl ?_
    refine XS.iload X0.here hx rfl (hb hby d8_28) rfl ?_
    refine XS.i2b X0.here hx rfl (hb hby d8_30) rfl ?_
    show Steps p.tables e below (s₁.setTop (mkF m 31 #[.val (.ref tx), .val (.int 0), .val (.ref bb), .val (.int 0), .val (.int 3), .val (.int 0), .val (.int u0)] [(.int u0.toInt8.toInt32), (.int 0), (.ref bb)])) _
    rw [show u0.toInt8.toInt32 = (own_by u0) from rfl]
    show Steps p.tables e below (s₁.setTop (mkF m 31 #[.val (.ref tx), .val (.int 0), .val (.ref bb), .val (.int 0), .val (.int 3), .val (.int 0), .val (.int u0)] [(.int (own_by u0)), (.int 0), (.ref bb)])) _
    exact kq)
  obtain ⟨cl728, Ar728, q728, S728, M728, H728, Gf728⟩ := id Ab
  have hi729 : ¬ ((0 : Int32) < 0 ∨ cl728.slots.size ≤ ((0 : Int32)).toNatClampNeg) := (inb_of S728 ⟨by decide, by decide⟩)
  obtain ⟨T730, h730, X730, e730, W730, st730⟩ := stB X0 hx hZ e0 Ar728 (j := (0 : Int32)) hi729 (g := (mkF m 31 #[.val (.ref tx), .val (.int 0), .val (.ref bb), .val (.int 0), .val (.int 3), .val (.int 0), .val (.int u0)] [(.int (own_by u0)), (.int 0), (.ref bb)])) rfl rfl (hb hby d8_31)
  rw [show nar .byte (own_by u0) = (own_by u0) from own_byN _] at W730
  have N730 := Fr.snoc X730 N0 gb
  have V730 := Arv.set Ar728 q728 S728 M728 H728 Gf728 (own_byF _) W730 0 rfl (Nat.le_of_ble_eq_true rfl)
  have V730' : Arv Z h730 bb kb .byte (3 : Int32) [(.int (own_by u0)), (.int 0), (.int 0)] (.int 0) := by exact V730
  have G731 : Go p e below A0 (T730.setTop (mkF m 32 #[.val (.ref tx), .val (.int 0), .val (.ref bb), .val (.int 0), .val (.int 3), .val (.int 0), .val (.int u0)] [])) := fun tq kq => G727 tq (st730 _ kq)
  have G732 : Go p e below A0 (T730.setTop (mkF m 12 #[.val (.ref tx), .val (.int 1), .val (.ref bb), .val (.int 1), .val (.int 3), .val (.int 1), .val (.int u0)] [(.int 1), (.ref tx)])) := fun tq kq => G731 tq (by
    refine XS.iinc X730.here hx rfl (hb hby d8_32) rfl (l' := #[.val (.ref tx), .val (.int ((0 : Int32) + (1 : Int32))), .val (.ref bb), .val (.int 0), .val (.int 3), .val (.int 0), .val (.int u0)]) rfl ?_
    show Steps p.tables e below (T730.setTop (mkF m 35 #[.val (.ref tx), .val (.int ((0 : Int32) + (1 : Int32))), .val (.ref bb), .val (.int 0), .val (.int 3), .val (.int 0), .val (.int u0)] [])) _
    rw [show ((0 : Int32) + (1 : Int32)) = (1 : Int32) from (by decide : ((0 : Int32) + (1 : Int32)) = (1 : Int32))]
    show Steps p.tables e below (T730.setTop (mkF m 35 #[.val (.ref tx), .val (.int 1), .val (.ref bb), .val (.int 0), .val (.int 3), .val (.int 0), .val (.int u0)] [])) _
    refine XS.iinc X730.here hx rfl (hb hby d8_35) rfl (l' := #[.val (.ref tx), .val (.int 1), .val (.ref bb), .val (.int ((0 : Int32) + (1 : Int32))), .val (.int 3), .val (.int 0), .val (.int u0)]) rfl ?_
    show Steps p.tables e below (T730.setTop (mkF m 38 #[.val (.ref tx), .val (.int 1), .val (.ref bb), .val (.int ((0 : Int32) + (1 : Int32))), .val (.int 3), .val (.int 0), .val (.int u0)] [])) _
    rw [show ((0 : Int32) + (1 : Int32)) = (1 : Int32) from (by decide : ((0 : Int32) + (1 : Int32)) = (1 : Int32))]
    show Steps p.tables e below (T730.setTop (mkF m 38 #[.val (.ref tx), .val (.int 1), .val (.ref bb), .val (.int 1), .val (.int 3), .val (.int 0), .val (.int u0)] [])) _
    refine XS.iinc X730.here hx rfl (hb hby d8_38) rfl (l' := #[.val (.ref tx), .val (.int 1), .val (.ref bb), .val (.int 1), .val (.int 3), .val (.int ((0 : Int32) + (1 : Int32))), .val (.int u0)]) rfl ?_
    show Steps p.tables e below (T730.setTop (mkF m 41 #[.val (.ref tx), .val (.int 1), .val (.ref bb), .val (.int 1), .val (.int 3), .val (.int ((0 : Int32) + (1 : Int32))), .val (.int u0)] [])) _
    rw [show ((0 : Int32) + (1 : Int32)) = (1 : Int32) from (by decide : ((0 : Int32) + (1 : Int32)) = (1 : Int32))]
    show Steps p.tables e below (T730.setTop (mkF m 41 #[.val (.ref tx), .val (.int 1), .val (.ref bb), .val (.int 1), .val (.int 3), .val (.int 1), .val (.int u0)] [])) _
    refine XS.goto X730.here hx rfl (pc0 := 41) (pc' := 3) rfl (hb hby d8_41) (by decide) (by decide) ?_
    refine XS.iload X730.here hx rfl (hb hby d8_3) rfl ?_
    refine XS.iload X730.here hx rfl (hb hby d8_5) rfl ?_
    refine XS.icmpNo X730.here hx rfl (hb hby d8_7) rfl (by decide) ?_
    refine XS.aloadN X730.here hx rfl (hb hby d8_10) rfl rfl ?_
    refine XS.iloadN X730.here hx rfl (hb hby d8_11) rfl ?_
    exact kq)
  have f733 := (At.other W730 htb)
  obtain ⟨cl734, Ar734, q734, S734, M734, H734, Gf734⟩ := id f733
  have hi735 : ¬ ((1 : Int32) < 0 ∨ cl734.slots.size ≤ ((1 : Int32)).toNatClampNeg) := (inb_of S734 ⟨by decide, by decide⟩)
  have G736 : Go p e below A0 (T730.setTop (mkF m 25 #[.val (.ref tx), .val (.int 1), .val (.ref bb), .val (.int 1), .val (.int 3), .val (.int 1), .val (.int u1)] [(.int 1)])) := fun tq kq => G732 tq (by
    refine X730.caload hx (j := (1 : Int32)) (v := (.int u1)) (by rw [e730]; exact Ar734.1) (State.isArrayOf_alike hZ.alike Ar734.2.1) Ar734.2.2 hi735 (H734.at hi735 rfl) (g := (mkF m 12 #[.val (.ref tx), .val (.int 1), .val (.ref bb), .val (.int 1), .val (.int 3), .val (.int 1), .val (.int u0)] [(.int 1), (.ref tx)])) rfl rfl (hb hby d8_12) _ ?_
    show Steps p.tables e below (T730.setTop (mkF m 13 #[.val (.ref tx), .val (.int 1), .val (.ref bb), .val (.int 1), .val (.int 3), .val (.int 1), .val (.int u0)] [(.int u1)])) _
    refine XS.istore X730.here hx rfl (hb hby d8_13) rfl (l' := #[.val (.ref tx), .val (.int 1), .val (.ref bb), .val (.int 1), .val (.int 3), .val (.int 1), .val (.int u1)]) rfl ?_
    refine XS.iload X730.here hx rfl (hb hby d8_15) rfl ?_
    refine XS.sipush X730.here hx rfl (hb hby d8_17) ?_
    refine XS.icmpNo X730.here hx rfl (hb hby d8_20) rfl (tlt gu).2.2.2 ?_
    refine XS.iload X730.here hx rfl (hb hby d8_23) rfl ?_
    exact kq)
  obtain ⟨fs, hr, hrun, hended, hW, hsame⟩ := X730.leave (v := some (.int 1)) (fun h => by rw [Bd.returns] at h; cases h)
  refine ⟨_, _, (by rw [← hA0]; exact G736 _ (retOut X730 hx (t := .int) Bd.returns rfl (Or.inl ⟨rfl, Or.inl rfl, _, rfl⟩) (hb hby d8_25) hr)), hrun, hended, _, _, rfl, ?_, ⟨_, rfl⟩, hW, hsame.mono (by decide) (by decide)⟩
  show Qk31 Z bb kb u0 u1 u2 h0 n0 _ T730.heap _
  rw [e730]
  exact ⟨rfl, N730, ((Keep.refl h0 [bb]).wr W730 (Or.inl (List.mem_of_getElem? (i := 0) rfl)))⟩
def Qk32 (Z : State) (bb : Addr) (kb : ClassId) (u0 u1 u2 : Int32) (h0 : Heap) (n0 : Nat) (v : Option Value) (h : Heap) (L : List Loc) : Prop := v = some (.int 2) ∧ Fr n0 L ∧ Keep h0 h [bb]
set_option maxRecDepth 65536 in
set_option maxHeartbeats 40000000 in
theorem rmK32 (l : Launch) (Z : State) (a0 : Array Value) (hw : ∀ d ∈ tables_1, d.before a0 Z = true) (ws : List Jvm.Cond) (tx bb : Addr) (kt kb : ClassId) (u0 u1 u2 : Int32) (h0 : Heap) (n0 : Nat) (Z0 : n0 ≤ h0.size) (At : Arv Z h0 tx kt .char (3 : Int32) [(.int u0), (.int u1), (.int u2)] (.int 0)) (Ab : Arv Z h0 bb kb .byte (3 : Int32) [(.int 0), (.int 0), (.int 0)] (.int 0)) (gb : n0 ≤ bb) (htb : tx ≠ bb) (ru0 : own_R u0) (ru1 : own_R u1) (ru2 : own_R u2) (lu0 : ¬ (255 : Int32) < u0) (lu1 : ¬ (255 : Int32) < u1) (gu : (255 : Int32) < u2) :
    MetFree l (⟨"java/lang/StringUTF16", "compress", "([CI[BII)I"⟩ : MethodName) (head1 (Jvm.Cond.code (⟨"java/lang/StringUTF16", "compress", "([CI[BII)I"⟩ : MethodName) jdk_52_method_21_code 7 (some .int) :: ws) (Rm 0 0 0 0)) (fun aa UU => aa = #[(.ref tx), (.int 0), (.ref bb), (.int 0), (.int 3)] ∧ Z.Warmed39 UU.vm ∧ UU.heap = h0) (fun _ _ _ _ _ => True) (fun _ UU oo U' => ∃ v L, oo = .returned v ∧ Qk32 Z bb kb u0 u1 u2 h0 n0 v U'.heap L ∧ FrameEnd UU oo U' L (Rm 0 0 0 0).cells (Rm 0 0 0 0).slots) := by
  refine MetFree.of_bodySF (plainFor_of_name pn_2) hisR ?_
  intro p e s m args below meth c s₁ Bd hml0 hP hK
  obtain ⟨rfl, hZ, hh⟩ := hP
  have hx := Bd.exec
  have hby := Bd.bytes
  have hml : c.maxLocals = 7 := hml0
  have hown : s.vm.findClass "java/lang/StringUTF16" = some m.cls := findClass_of_methodNamed Bd.named
  have hnm := (name_of_methodNamed Bd.named Bd.method).1
  have X0 : Stand p l e (Rm 0 0 0 0) s m #[(.ref tx), (.int 0), (.ref bb), (.int 0), (.int 3)] below meth c s₁ [] 0 0 := Stand.of_body Bd
  have e0 : s₁.heap = h0 := by rw [← hh, Bd.state]; rfl
  have N0 := Fr.nil n0
  obtain ⟨A0, hA0⟩ : ∃ A, A = s₁.setTop (entryFrame m #[(.ref tx), (.int 0), (.ref bb), (.int 0), (.int 3)] 7) := ⟨_, rfl⟩
  have G0 : Go p e below A0 (s₁.setTop (mkF m 0 #[.val (.ref tx), .val (.int 0), .val (.ref bb), .val (.int 0), .val (.int 3), .unset, .unset] [])) := fun tq kq => by rw [hA0]; exact castTop (ef_rmK32 m tx (0 : Int32) bb (0 : Int32) (3 : Int32)) kq
  have G737 : Go p e below A0 (s₁.setTop (mkF m 12 #[.val (.ref tx), .val (.int 0), .val (.ref bb), .val (.int 0), .val (.int 3), .val (.int 0), .unset] [(.int 0), (.ref tx)])) := fun tq kq => G0 tq (by
    refine XS.iconst X0.here hx rfl (hb hby d8_0) ?_
    refine XS.istore X0.here hx rfl (hb hby d8_1) rfl (l' := #[.val (.ref tx), .val (.int 0), .val (.ref bb), .val (.int 0), .val (.int 3), .val (.int 0), .unset]) rfl ?_
    refine XS.iload X0.here hx rfl (hb hby d8_3) rfl ?_
    refine XS.iload X0.here hx rfl (hb hby d8_5) rfl ?_
    refine XS.icmpNo X0.here hx rfl (hb hby d8_7) rfl (by decide) ?_
    refine XS.aloadN X0.here hx rfl (hb hby d8_10) rfl rfl ?_
    refine XS.iloadN X0.here hx rfl (hb hby d8_11) rfl ?_
    exact kq)
  obtain ⟨cl738, Ar738, q738, S738, M738, H738, Gf738⟩ := id At
  have hi739 : ¬ ((0 : Int32) < 0 ∨ cl738.slots.size ≤ ((0 : Int32)).toNatClampNeg) := (inb_of S738 ⟨by decide, by decide⟩)
  have G740 : Go p e below A0 (s₁.setTop (mkF m 31 #[.val (.ref tx), .val (.int 0), .val (.ref bb), .val (.int 0), .val (.int 3), .val (.int 0), .val (.int u0)] [(.int (own_by u0)), (.int 0), (.ref bb)])) := fun tq kq => G737 tq (by
    refine X0.caload hx (j := (0 : Int32)) (v := (.int u0)) (by rw [e0]; exact Ar738.1) (State.isArrayOf_alike hZ.alike Ar738.2.1) Ar738.2.2 hi739 (H738.at hi739 rfl) (g := (mkF m 12 #[.val (.ref tx), .val (.int 0), .val (.ref bb), .val (.int 0), .val (.int 3), .val (.int 0), .unset] [(.int 0), (.ref tx)])) rfl rfl (hb hby d8_12) _ ?_
    show Steps p.tables e below (s₁.setTop (mkF m 13 #[.val (.ref tx), .val (.int 0), .val (.ref bb), .val (.int 0), .val (.int 3), .val (.int 0), .unset] [(.int u0)])) _
    refine XS.istore X0.here hx rfl (hb hby d8_13) rfl (l' := #[.val (.ref tx), .val (.int 0), .val (.ref bb), .val (.int 0), .val (.int 3), .val (.int 0), .val (.int u0)]) rfl ?_
    refine XS.iload X0.here hx rfl (hb hby d8_15) rfl ?_
    refine XS.sipush X0.here hx rfl (hb hby d8_17) ?_
    refine XS.icmpYes X0.here hx rfl (pc0 := 20) (pc' := 26) rfl (hb hby d8_20) rfl (flt lu0).2.2.2 (by decide) (by decide) ?_
    refine XS.aloadN X0.here hx rfl (hb hby d8_26) rfl rfl ?_
    refine XS.iloadN X0.here hx rfl (hb hby d8_27) rfl ?_
    refine XS.iload X0.here hx rfl (hb hby d8_28) rfl ?_
    refine XS.i2b X0.here hx rfl (hb hby d8_30) rfl ?_
    show Steps p.tables e below (s₁.setTop (mkF m 31 #[.val (.ref tx), .val (.int 0), .val (.ref bb), .val (.int 0), .val (.int 3), .val (.int 0), .val (.int u0)] [(.int u0.toInt8.toInt32), (.int 0), (.ref bb)])) _
    rw [show u0.toInt8.toInt32 = (own_by u0) from rfl]
    show Steps p.tables e below (s₁.setTop (mkF m 31 #[.val (.ref tx), .val (.int 0), .val (.ref bb), .val (.int 0), .val (.int 3), .val (.int 0), .val (.int u0)] [(.int (own_by u0)), (.int 0), (.ref bb)])) _
    exact kq)
  obtain ⟨cl741, Ar741, q741, S741, M741, H741, Gf741⟩ := id Ab
  have hi742 : ¬ ((0 : Int32) < 0 ∨ cl741.slots.size ≤ ((0 : Int32)).toNatClampNeg) := (inb_of S741 ⟨by decide, by decide⟩)
  obtain ⟨T743, h743, X743, e743, W743, st743⟩ := stB X0 hx hZ e0 Ar741 (j := (0 : Int32)) hi742 (g := (mkF m 31 #[.val (.ref tx), .val (.int 0), .val (.ref bb), .val (.int 0), .val (.int 3), .val (.int 0), .val (.int u0)] [(.int (own_by u0)), (.int 0), (.ref bb)])) rfl rfl (hb hby d8_31)
  rw [show nar .byte (own_by u0) = (own_by u0) from own_byN _] at W743
  have N743 := Fr.snoc X743 N0 gb
  have V743 := Arv.set Ar741 q741 S741 M741 H741 Gf741 (own_byF _) W743 0 rfl (Nat.le_of_ble_eq_true rfl)
  have V743' : Arv Z h743 bb kb .byte (3 : Int32) [(.int (own_by u0)), (.int 0), (.int 0)] (.int 0) := by exact V743
  have G744 : Go p e below A0 (T743.setTop (mkF m 32 #[.val (.ref tx), .val (.int 0), .val (.ref bb), .val (.int 0), .val (.int 3), .val (.int 0), .val (.int u0)] [])) := fun tq kq => G740 tq (st743 _ kq)
  have G745 : Go p e below A0 (T743.setTop (mkF m 12 #[.val (.ref tx), .val (.int 1), .val (.ref bb), .val (.int 1), .val (.int 3), .val (.int 1), .val (.int u0)] [(.int 1), (.ref tx)])) := fun tq kq => G744 tq (by
    refine XS.iinc X743.here hx rfl (hb hby d8_32) rfl (l' := #[.val (.ref tx), .val (.int ((0 : Int32) + (1 : Int32))), .val (.ref bb), .val (.int 0), .val (.int 3), .val (.int 0), .val (.int u0)]) rfl ?_
    show Steps p.tables e below (T743.setTop (mkF m 35 #[.val (.ref tx), .val (.int ((0 : Int32) + (1 : Int32))), .val (.ref bb), .val (.int 0), .val (.int 3), .val (.int 0), .val (.int u0)] [])) _
    rw [show ((0 : Int32) + (1 : Int32)) = (1 : Int32) from (by decide : ((0 : Int32) + (1 : Int32)) = (1 : Int32))]
    show Steps p.tables e below (T743.setTop (mkF m 35 #[.val (.ref tx), .val (.int 1), .val (.ref bb), .val (.int 0), .val (.int 3), .val (.int 0), .val (.int u0)] [])) _
    refine XS.iinc X743.here hx rfl (hb hby d8_35) rfl (l' := #[.val (.ref tx), .val (.int 1), .val (.ref bb), .val (.int ((0 : Int32) + (1 : Int32))), .val (.int 3), .val (.int 0), .val (.int u0)]) rfl ?_
    show Steps p.tables e below (T743.setTop (mkF m 38 #[.val (.ref tx), .val (.int 1), .val (.ref bb), .val (.int ((0 : Int32) + (1 : Int32))), .val (.int 3), .val (.int 0), .val (.int u0)] [])) _
    rw [show ((0 : Int32) + (1 : Int32)) = (1 : Int32) from (by decide : ((0 : Int32) + (1 : Int32)) = (1 : Int32))]
    show Steps p.tables e below (T743.setTop (mkF m 38 #[.val (.ref tx), .val (.int 1), .val (.ref bb), .val (.int 1), .val (.int 3), .val (.int 0), .val (.int u0)] [])) _
    refine XS.iinc X743.here hx rfl (hb hby d8_38) rfl (l' := #[.val (.ref tx), .val (.int 1), .val (.ref bb), .val (.int 1), .val (.int 3), .val (.int ((0 : Int32) + (1 : Int32))), .val (.int u0)]) rfl ?_
    show Steps p.tables e below (T743.setTop (mkF m 41 #[.val (.ref tx), .val (.int 1), .val (.ref bb), .val (.int 1), .val (.int 3), .val (.int ((0 : Int32) + (1 : Int32))), .val (.int u0)] [])) _
    rw [show ((0 : Int32) + (1 : Int32)) = (1 : Int32) from (by decide : ((0 : Int32) + (1 : Int32)) = (1 : Int32))]
    show Steps p.tables e below (T743.setTop (mkF m 41 #[.val (.ref tx), .val (.int 1), .val (.ref bb), .val (.int 1), .val (.int 3), .val (.int 1), .val (.int u0)] [])) _
    refine XS.goto X743.here hx rfl (pc0 := 41) (pc' := 3) rfl (hb hby d8_41) (by decide) (by decide) ?_
    refine XS.iload X743.here hx rfl (hb hby d8_3) rfl ?_
    refine XS.iload X743.here hx rfl (hb hby d8_5) rfl ?_
    refine XS.icmpNo X743.here hx rfl (hb hby d8_7) rfl (by decide) ?_
    refine XS.aloadN X743.here hx rfl (hb hby d8_10) rfl rfl ?_
    refine XS.iloadN X743.here hx rfl (hb hby d8_11) rfl ?_
    exact kq)
  have f746 := (At.other W743 htb)
  obtain ⟨cl747, Ar747, q747, S747, M747, H747, Gf747⟩ := id f746
  have hi748 : ¬ ((1 : Int32) < 0 ∨ cl747.slots.size ≤ ((1 : Int32)).toNatClampNeg) := (inb_of S747 ⟨by decide, by decide⟩)
  have G749 : Go p e below A0 (T743.setTop (mkF m 31 #[.val (.ref tx), .val (.int 1), .val (.ref bb), .val (.int 1), .val (.int 3), .val (.int 1), .val (.int u1)] [(.int (own_by u1)), (.int 1), (.ref bb)])) := fun tq kq => G745 tq (by
    refine X743.caload hx (j := (1 : Int32)) (v := (.int u1)) (by rw [e743]; exact Ar747.1) (State.isArrayOf_alike hZ.alike Ar747.2.1) Ar747.2.2 hi748 (H747.at hi748 rfl) (g := (mkF m 12 #[.val (.ref tx), .val (.int 1), .val (.ref bb), .val (.int 1), .val (.int 3), .val (.int 1), .val (.int u0)] [(.int 1), (.ref tx)])) rfl rfl (hb hby d8_12) _ ?_
    show Steps p.tables e below (T743.setTop (mkF m 13 #[.val (.ref tx), .val (.int 1), .val (.ref bb), .val (.int 1), .val (.int 3), .val (.int 1), .val (.int u0)] [(.int u1)])) _
    refine XS.istore X743.here hx rfl (hb hby d8_13) rfl (l' := #[.val (.ref tx), .val (.int 1), .val (.ref bb), .val (.int 1), .val (.int 3), .val (.int 1), .val (.int u1)]) rfl ?_
    refine XS.iload X743.here hx rfl (hb hby d8_15) rfl ?_
    refine XS.sipush X743.here hx rfl (hb hby d8_17) ?_
    refine XS.icmpYes X743.here hx rfl (pc0 := 20) (pc' := 26) rfl (hb hby d8_20) rfl (flt lu1).2.2.2 (by decide) (by decide) ?_
    refine XS.aloadN X743.here hx rfl (hb hby d8_26) rfl rfl ?_
    refine XS.iloadN X743.here hx rfl (hb hby d8_27) rfl ?_
    refine XS.iload X743.here hx rfl (hb hby d8_28) rfl ?_
    refine XS.i2b X743.here hx rfl (hb hby d8_30) rfl ?_
    show Steps p.tables e below (T743.setTop (mkF m 31 #[.val (.ref tx), .val (.int 1), .val (.ref bb), .val (.int 1), .val (.int 3), .val (.int 1), .val (.int u1)] [(.int u1.toInt8.toInt32), (.int 1), (.ref bb)])) _
    rw [show u1.toInt8.toInt32 = (own_by u1) from rfl]
    show Steps p.tables e below (T743.setTop (mkF m 31 #[.val (.ref tx), .val (.int 1), .val (.ref bb), .val (.int 1), .val (.int 3), .val (.int 1), .val (.int u1)] [(.int (own_by u1)), (.int 1), (.ref bb)])) _
    exact kq)
  obtain ⟨cl750, Ar750, q750, S750, M750, H750, Gf750⟩ := id V743'
  have hi751 : ¬ ((1 : Int32) < 0 ∨ cl750.slots.size ≤ ((1 : Int32)).toNatClampNeg) := (inb_of S750 ⟨by decide, by decide⟩)
  obtain ⟨T752, h752, X752, e752, W752, st752⟩ := stB X743 hx hZ e743 Ar750 (j := (1 : Int32)) hi751 (g := (mkF m 31 #[.val (.ref tx), .val (.int 1), .val (.ref bb), .val (.int 1), .val (.int 3), .val (.int 1), .val (.int u1)] [(.int (own_by u1)), (.int 1), (.ref bb)])) rfl rfl (hb hby d8_31)
  rw [show nar .byte (own_by u1) = (own_by u1) from own_byN _] at W752
  have N752 := Fr.snoc X752 N743 gb
  have V752 := Arv.set Ar750 q750 S750 M750 H750 Gf750 (own_byF _) W752 1 rfl (Nat.le_of_ble_eq_true rfl)
  have V752' : Arv Z h752 bb kb .byte (3 : Int32) [(.int (own_by u0)), (.int (own_by u1)), (.int 0)] (.int 0) := by exact V752
  have G753 : Go p e below A0 (T752.setTop (mkF m 32 #[.val (.ref tx), .val (.int 1), .val (.ref bb), .val (.int 1), .val (.int 3), .val (.int 1), .val (.int u1)] [])) := fun tq kq => G749 tq (st752 _ kq)
  have G754 : Go p e below A0 (T752.setTop (mkF m 12 #[.val (.ref tx), .val (.int 2), .val (.ref bb), .val (.int 2), .val (.int 3), .val (.int 2), .val (.int u1)] [(.int 2), (.ref tx)])) := fun tq kq => G753 tq (by
    refine XS.iinc X752.here hx rfl (hb hby d8_32) rfl (l' := #[.val (.ref tx), .val (.int ((1 : Int32) + (1 : Int32))), .val (.ref bb), .val (.int 1), .val (.int 3), .val (.int 1), .val (.int u1)]) rfl ?_
    show Steps p.tables e below (T752.setTop (mkF m 35 #[.val (.ref tx), .val (.int ((1 : Int32) + (1 : Int32))), .val (.ref bb), .val (.int 1), .val (.int 3), .val (.int 1), .val (.int u1)] [])) _
    rw [show ((1 : Int32) + (1 : Int32)) = (2 : Int32) from (by decide : ((1 : Int32) + (1 : Int32)) = (2 : Int32))]
    show Steps p.tables e below (T752.setTop (mkF m 35 #[.val (.ref tx), .val (.int 2), .val (.ref bb), .val (.int 1), .val (.int 3), .val (.int 1), .val (.int u1)] [])) _
    refine XS.iinc X752.here hx rfl (hb hby d8_35) rfl (l' := #[.val (.ref tx), .val (.int 2), .val (.ref bb), .val (.int ((1 : Int32) + (1 : Int32))), .val (.int 3), .val (.int 1), .val (.int u1)]) rfl ?_
    show Steps p.tables e below (T752.setTop (mkF m 38 #[.val (.ref tx), .val (.int 2), .val (.ref bb), .val (.int ((1 : Int32) + (1 : Int32))), .val (.int 3), .val (.int 1), .val (.int u1)] [])) _
    rw [show ((1 : Int32) + (1 : Int32)) = (2 : Int32) from (by decide : ((1 : Int32) + (1 : Int32)) = (2 : Int32))]
    show Steps p.tables e below (T752.setTop (mkF m 38 #[.val (.ref tx), .val (.int 2), .val (.ref bb), .val (.int 2), .val (.int 3), .val (.int 1), .val (.int u1)] [])) _
    refine XS.iinc X752.here hx rfl (hb hby d8_38) rfl (l' := #[.val (.ref tx), .val (.int 2), .val (.ref bb), .val (.int 2), .val (.int 3), .val (.int ((1 : Int32) + (1 : Int32))), .val (.int u1)]) rfl ?_
    show Steps p.tables e below (T752.setTop (mkF m 41 #[.val (.ref tx), .val (.int 2), .val (.ref bb), .val (.int 2), .val (.int 3), .val (.int ((1 : Int32) + (1 : Int32))), .val (.int u1)] [])) _
    rw [show ((1 : Int32) + (1 : Int32)) = (2 : Int32) from (by decide : ((1 : Int32) + (1 : Int32)) = (2 : Int32))]
    show Steps p.tables e below (T752.setTop (mkF m 41 #[.val (.ref tx), .val (.int 2), .val (.ref bb), .val (.int 2), .val (.int 3), .val (.int 2), .val (.int u1)] [])) _
    refine XS.goto X752.here hx rfl (pc0 := 41) (pc' := 3) rfl (hb hby d8_41) (by decide) (by decide) ?_
    refine XS.iload X752.here hx rfl (hb hby d8_3) rfl ?_
    refine XS.iload X752.here hx rfl (hb hby d8_5) rfl ?_
    refine XS.icmpNo X752.here hx rfl (hb hby d8_7) rfl (by decide) ?_
    refine XS.aloadN X752.here hx rfl (hb hby d8_10) rfl rfl ?_
    refine XS.iloadN X752.here hx rfl (hb hby d8_11) rfl ?_
    exact kq)
  have f755 := (f746.other W752 htb)
  obtain ⟨cl756, Ar756, q756, S756, M756, H756, Gf756⟩ := id f755
  have hi757 : ¬ ((2 : Int32) < 0 ∨ cl756.slots.size ≤ ((2 : Int32)).toNatClampNeg) := (inb_of S756 ⟨by decide, by decide⟩)
  have G758 : Go p e below A0 (T752.setTop (mkF m 25 #[.val (.ref tx), .val (.int 2), .val (.ref bb), .val (.int 2), .val (.int 3), .val (.int 2), .val (.int u2)] [(.int 2)])) := fun tq kq => G754 tq (by
    refine X752.caload hx (j := (2 : Int32)) (v := (.int u2)) (by rw [e752]; exact Ar756.1) (State.isArrayOf_alike hZ.alike Ar756.2.1) Ar756.2.2 hi757 (H756.at hi757 rfl) (g := (mkF m 12 #[.val (.ref tx), .val (.int 2), .val (.ref bb), .val (.int 2), .val (.int 3), .val (.int 2), .val (.int u1)] [(.int 2), (.ref tx)])) rfl rfl (hb hby d8_12) _ ?_
    show Steps p.tables e below (T752.setTop (mkF m 13 #[.val (.ref tx), .val (.int 2), .val (.ref bb), .val (.int 2), .val (.int 3), .val (.int 2), .val (.int u1)] [(.int u2)])) _
    refine XS.istore X752.here hx rfl (hb hby d8_13) rfl (l' := #[.val (.ref tx), .val (.int 2), .val (.ref bb), .val (.int 2), .val (.int 3), .val (.int 2), .val (.int u2)]) rfl ?_
    refine XS.iload X752.here hx rfl (hb hby d8_15) rfl ?_
    refine XS.sipush X752.here hx rfl (hb hby d8_17) ?_
    refine XS.icmpNo X752.here hx rfl (hb hby d8_20) rfl (tlt gu).2.2.2 ?_
    refine XS.iload X752.here hx rfl (hb hby d8_23) rfl ?_
    exact kq)
  obtain ⟨fs, hr, hrun, hended, hW, hsame⟩ := X752.leave (v := some (.int 2)) (fun h => by rw [Bd.returns] at h; cases h)
  refine ⟨_, _, (by rw [← hA0]; exact G758 _ (retOut X752 hx (t := .int) Bd.returns rfl (Or.inl ⟨rfl, Or.inl rfl, _, rfl⟩) (hb hby d8_25) hr)), hrun, hended, _, _, rfl, ?_, ⟨_, rfl⟩, hW, hsame.mono (by decide) (by decide)⟩
  show Qk32 Z bb kb u0 u1 u2 h0 n0 _ T752.heap _
  rw [e752]
  exact ⟨rfl, N752, (((Keep.refl h0 [bb]).wr W743 (Or.inl (List.mem_of_getElem? (i := 0) rfl))).wr W752 (Or.inl (List.mem_of_getElem? (i := 0) rfl)))⟩
def Qk33 (Z : State) (bb : Addr) (kb : ClassId) (u0 u1 u2 : Int32) (h0 : Heap) (n0 : Nat) (v : Option Value) (h : Heap) (L : List Loc) : Prop := v = some (.int 3) ∧ Fr n0 L ∧ Keep h0 h [bb] ∧ Arv Z h bb kb .byte (3 : Int32) [(.int (own_by u0)), (.int (own_by u1)), (.int (own_by u2))] (.int 0)
set_option maxRecDepth 65536 in
set_option maxHeartbeats 40000000 in
theorem rmK33 (l : Launch) (Z : State) (a0 : Array Value) (hw : ∀ d ∈ tables_1, d.before a0 Z = true) (ws : List Jvm.Cond) (tx bb : Addr) (kt kb : ClassId) (u0 u1 u2 : Int32) (h0 : Heap) (n0 : Nat) (Z0 : n0 ≤ h0.size) (At : Arv Z h0 tx kt .char (3 : Int32) [(.int u0), (.int u1), (.int u2)] (.int 0)) (Ab : Arv Z h0 bb kb .byte (3 : Int32) [(.int 0), (.int 0), (.int 0)] (.int 0)) (gb : n0 ≤ bb) (htb : tx ≠ bb) (ru0 : own_R u0) (ru1 : own_R u1) (ru2 : own_R u2) (lu0 : ¬ (255 : Int32) < u0) (lu1 : ¬ (255 : Int32) < u1) (lu2 : ¬ (255 : Int32) < u2) :
    MetFree l (⟨"java/lang/StringUTF16", "compress", "([CI[BII)I"⟩ : MethodName) (head1 (Jvm.Cond.code (⟨"java/lang/StringUTF16", "compress", "([CI[BII)I"⟩ : MethodName) jdk_52_method_21_code 7 (some .int) :: ws) (Rm 0 0 0 0)) (fun aa UU => aa = #[(.ref tx), (.int 0), (.ref bb), (.int 0), (.int 3)] ∧ Z.Warmed39 UU.vm ∧ UU.heap = h0) (fun _ _ _ _ _ => True) (fun _ UU oo U' => ∃ v L, oo = .returned v ∧ Qk33 Z bb kb u0 u1 u2 h0 n0 v U'.heap L ∧ FrameEnd UU oo U' L (Rm 0 0 0 0).cells (Rm 0 0 0 0).slots) := by
  refine MetFree.of_bodySF (plainFor_of_name pn_2) hisR ?_
  intro p e s m args below meth c s₁ Bd hml0 hP hK
  obtain ⟨rfl, hZ, hh⟩ := hP
  have hx := Bd.exec
  have hby := Bd.bytes
  have hml : c.maxLocals = 7 := hml0
  have hown : s.vm.findClass "java/lang/StringUTF16" = some m.cls := findClass_of_methodNamed Bd.named
  have hnm := (name_of_methodNamed Bd.named Bd.method).1
  have X0 : Stand p l e (Rm 0 0 0 0) s m #[(.ref tx), (.int 0), (.ref bb), (.int 0), (.int 3)] below meth c s₁ [] 0 0 := Stand.of_body Bd
  have e0 : s₁.heap = h0 := by rw [← hh, Bd.state]; rfl
  have N0 := Fr.nil n0
  obtain ⟨A0, hA0⟩ : ∃ A, A = s₁.setTop (entryFrame m #[(.ref tx), (.int 0), (.ref bb), (.int 0), (.int 3)] 7) := ⟨_, rfl⟩
  have G0 : Go p e below A0 (s₁.setTop (mkF m 0 #[.val (.ref tx), .val (.int 0), .val (.ref bb), .val (.int 0), .val (.int 3), .unset, .unset] [])) := fun tq kq => by rw [hA0]; exact castTop (ef_rmK33 m tx (0 : Int32) bb (0 : Int32) (3 : Int32)) kq
  have G759 : Go p e below A0 (s₁.setTop (mkF m 12 #[.val (.ref tx), .val (.int 0), .val (.ref bb), .val (.int 0), .val (.int 3), .val (.int 0), .unset] [(.int 0), (.ref tx)])) := fun tq kq => G0 tq (by
    refine XS.iconst X0.here hx rfl (hb hby d8_0) ?_
    refine XS.istore X0.here hx rfl (hb hby d8_1) rfl (l' := #[.val (.ref tx), .val (.int 0), .val (.ref bb), .val (.int 0), .val (.int 3), .val (.int 0), .unset]) rfl ?_
    refine XS.iload X0.here hx rfl (hb hby d8_3) rfl ?_
    refine XS.iload X0.here hx rfl (hb hby d8_5) rfl ?_
    refine XS.icmpNo X0.here hx rfl (hb hby d8_7) rfl (by decide) ?_
    refine XS.aloadN X0.here hx rfl (hb hby d8_10) rfl rfl ?_
    refine XS.iloadN X0.here hx rfl (hb hby d8_11) rfl ?_
    exact kq)
  obtain ⟨cl760, Ar760, q760, S760, M760, H760, Gf760⟩ := id At
  have hi761 : ¬ ((0 : Int32) < 0 ∨ cl760.slots.size ≤ ((0 : Int32)).toNatClampNeg) := (inb_of S760 ⟨by decide, by decide⟩)
  have G762 : Go p e below A0 (s₁.setTop (mkF m 31 #[.val (.ref tx), .val (.int 0), .val (.ref bb), .val (.int 0), .val (.int 3), .val (.int 0), .val (.int u0)] [(.int (own_by u0)), (.int 0), (.ref bb)])) := fun tq kq => G759 tq (by
    refine X0.caload hx (j := (0 : Int32)) (v := (.int u0)) (by rw [e0]; exact Ar760.1) (State.isArrayOf_alike hZ.alike Ar760.2.1) Ar760.2.2 hi761 (H760.at hi761 rfl) (g := (mkF m 12 #[.val (.ref tx), .val (.int 0), .val (.ref bb), .val (.int 0), .val (.int 3), .val (.int 0), .unset] [(.int 0), (.ref tx)])) rfl rfl (hb hby d8_12) _ ?_
    show Steps p.tables e below (s₁.setTop (mkF m 13 #[.val (.ref tx), .val (.int 0), .val (.ref bb), .val (.int 0), .val (.int 3), .val (.int 0), .unset] [(.int u0)])) _
    refine XS.istore X0.here hx rfl (hb hby d8_13) rfl (l' := #[.val (.ref tx), .val (.int 0), .val (.ref bb), .val (.int 0), .val (.int 3), .val (.int 0), .val (.int u0)]) rfl ?_
    refine XS.iload X0.here hx rfl (hb hby d8_15) rfl ?_
    refine XS.sipush X0.here hx rfl (hb hby d8_17) ?_
    refine XS.icmpYes X0.here hx rfl (pc0 := 20) (pc' := 26) rfl (hb hby d8_20) rfl (flt lu0).2.2.2 (by decide) (by decide) ?_
    refine XS.aloadN X0.here hx rfl (hb hby d8_26) rfl rfl ?_
    refine XS.iloadN X0.here hx rfl (hb hby d8_27) rfl ?_
    refine XS.iload X0.here hx rfl (hb hby d8_28) rfl ?_
    refine XS.i2b X0.here hx rfl (hb hby d8_30) rfl ?_
    show Steps p.tables e below (s₁.setTop (mkF m 31 #[.val (.ref tx), .val (.int 0), .val (.ref bb), .val (.int 0), .val (.int 3), .val (.int 0), .val (.int u0)] [(.int u0.toInt8.toInt32), (.int 0), (.ref bb)])) _
    rw [show u0.toInt8.toInt32 = (own_by u0) from rfl]
    show Steps p.tables e below (s₁.setTop (mkF m 31 #[.val (.ref tx), .val (.int 0), .val (.ref bb), .val (.int 0), .val (.int 3), .val (.int 0), .val (.int u0)] [(.int (own_by u0)), (.int 0), (.ref bb)])) _
    exact kq)
  obtain ⟨cl763, Ar763, q763, S763, M763, H763, Gf763⟩ := id Ab
  have hi764 : ¬ ((0 : Int32) < 0 ∨ cl763.slots.size ≤ ((0 : Int32)).toNatClampNeg) := (inb_of S763 ⟨by decide, by decide⟩)
  obtain ⟨T765, h765, X765, e765, W765, st765⟩ := stB X0 hx hZ e0 Ar763 (j := (0 : Int32)) hi764 (g := (mkF m 31 #[.val (.ref tx), .val (.int 0), .val (.ref bb), .val (.int 0), .val (.int 3), .val (.int 0), .val (.int u0)] [(.int (own_by u0)), (.int 0), (.ref bb)])) rfl rfl (hb hby d8_31)
  rw [show nar .byte (own_by u0) = (own_by u0) from own_byN _] at W765
  have N765 := Fr.snoc X765 N0 gb
  have V765 := Arv.set Ar763 q763 S763 M763 H763 Gf763 (own_byF _) W765 0 rfl (Nat.le_of_ble_eq_true rfl)
  have V765' : Arv Z h765 bb kb .byte (3 : Int32) [(.int (own_by u0)), (.int 0), (.int 0)] (.int 0) := by exact V765
  have G766 : Go p e below A0 (T765.setTop (mkF m 32 #[.val (.ref tx), .val (.int 0), .val (.ref bb), .val (.int 0), .val (.int 3), .val (.int 0), .val (.int u0)] [])) := fun tq kq => G762 tq (st765 _ kq)
  have G767 : Go p e below A0 (T765.setTop (mkF m 12 #[.val (.ref tx), .val (.int 1), .val (.ref bb), .val (.int 1), .val (.int 3), .val (.int 1), .val (.int u0)] [(.int 1), (.ref tx)])) := fun tq kq => G766 tq (by
    refine XS.iinc X765.here hx rfl (hb hby d8_32) rfl (l' := #[.val (.ref tx), .val (.int ((0 : Int32) + (1 : Int32))), .val (.ref bb), .val (.int 0), .val (.int 3), .val (.int 0), .val (.int u0)]) rfl ?_
    show Steps p.tables e below (T765.setTop (mkF m 35 #[.val (.ref tx), .val (.int ((0 : Int32) + (1 : Int32))), .val (.ref bb), .val (.int 0), .val (.int 3), .val (.int 0), .val (.int u0)] [])) _
    rw [show ((0 : Int32) + (1 : Int32)) = (1 : Int32) from (by decide : ((0 : Int32) + (1 : Int32)) = (1 : Int32))]
    show Steps p.tables e below (T765.setTop (mkF m 35 #[.val (.ref tx), .val (.int 1), .val (.ref bb), .val (.int 0), .val (.int 3), .val (.int 0), .val (.int u0)] [])) _
    refine XS.iinc X765.here hx rfl (hb hby d8_35) rfl (l' := #[.val (.ref tx), .val (.int 1), .val (.ref bb), .val (.int ((0 : Int32) + (1 : Int32))), .val (.int 3), .val (.int 0), .val (.int u0)]) rfl ?_
    show Steps p.tables e below (T765.setTop (mkF m 38 #[.val (.ref tx), .val (.int 1), .val (.ref bb), .val (.int ((0 : Int32) + (1 : Int32))), .val (.int 3), .val (.int 0), .val (.int u0)] [])) _
    rw [show ((0 : Int32) + (1 : Int32)) = (1 : Int32) from (by decide : ((0 : Int32) + (1 : Int32)) = (1 : Int32))]
    show Steps p.tables e below (T765.setTop (mkF m 38 #[.val (.ref tx), .val (.int 1), .val (.ref bb), .val (.int 1), .val (.int 3), .val (.int 0), .val (.int u0)] [])) _
    refine XS.iinc X765.here hx rfl (hb hby d8_38) rfl (l' := #[.val (.ref tx), .val (.int 1), .val (.ref bb), .val (.int 1), .val (.int 3), .val (.int ((0 : Int32) + (1 : Int32))), .val (.int u0)]) rfl ?_
    show Steps p.tables e below (T765.setTop (mkF m 41 #[.val (.ref tx), .val (.int 1), .val (.ref bb), .val (.int 1), .val (.int 3), .val (.int ((0 : Int32) + (1 : Int32))), .val (.int u0)] [])) _
    rw [show ((0 : Int32) + (1 : Int32)) = (1 : Int32) from (by decide : ((0 : Int32) + (1 : Int32)) = (1 : Int32))]
    show Steps p.tables e below (T765.setTop (mkF m 41 #[.val (.ref tx), .val (.int 1), .val (.ref bb), .val (.int 1), .val (.int 3), .val (.int 1), .val (.int u0)] [])) _
    refine XS.goto X765.here hx rfl (pc0 := 41) (pc' := 3) rfl (hb hby d8_41) (by decide) (by decide) ?_
    refine XS.iload X765.here hx rfl (hb hby d8_3) rfl ?_
    refine XS.iload X765.here hx rfl (hb hby d8_5) rfl ?_
    refine XS.icmpNo X765.here hx rfl (hb hby d8_7) rfl (by decide) ?_
    refine XS.aloadN X765.here hx rfl (hb hby d8_10) rfl rfl ?_
    refine XS.iloadN X765.here hx rfl (hb hby d8_11) rfl ?_
    exact kq)
  have f768 := (At.other W765 htb)
  obtain ⟨cl769, Ar769, q769, S769, M769, H769, Gf769⟩ := id f768
  have hi770 : ¬ ((1 : Int32) < 0 ∨ cl769.slots.size ≤ ((1 : Int32)).toNatClampNeg) := (inb_of S769 ⟨by decide, by decide⟩)
  have G771 : Go p e below A0 (T765.setTop (mkF m 31 #[.val (.ref tx), .val (.int 1), .val (.ref bb), .val (.int 1), .val (.int 3), .val (.int 1), .val (.int u1)] [(.int (own_by u1)), (.int 1), (.ref bb)])) := fun tq kq => G767 tq (by
    refine X765.caload hx (j := (1 : Int32)) (v := (.int u1)) (by rw [e765]; exact Ar769.1) (State.isArrayOf_alike hZ.alike Ar769.2.1) Ar769.2.2 hi770 (H769.at hi770 rfl) (g := (mkF m 12 #[.val (.ref tx), .val (.int 1), .val (.ref bb), .val (.int 1), .val (.int 3), .val (.int 1), .val (.int u0)] [(.int 1), (.ref tx)])) rfl rfl (hb hby d8_12) _ ?_
    show Steps p.tables e below (T765.setTop (mkF m 13 #[.val (.ref tx), .val (.int 1), .val (.ref bb), .val (.int 1), .val (.int 3), .val (.int 1), .val (.int u0)] [(.int u1)])) _
    refine XS.istore X765.here hx rfl (hb hby d8_13) rfl (l' := #[.val (.ref tx), .val (.int 1), .val (.ref bb), .val (.int 1), .val (.int 3), .val (.int 1), .val (.int u1)]) rfl ?_
    refine XS.iload X765.here hx rfl (hb hby d8_15) rfl ?_
    refine XS.sipush X765.here hx rfl (hb hby d8_17) ?_
    refine XS.icmpYes X765.here hx rfl (pc0 := 20) (pc' := 26) rfl (hb hby d8_20) rfl (flt lu1).2.2.2 (by decide) (by decide) ?_
    refine XS.aloadN X765.here hx rfl (hb hby d8_26) rfl rfl ?_
    refine XS.iloadN X765.here hx rfl (hb hby d8_27) rfl ?_
    refine XS.iload X765.here hx rfl (hb hby d8_28) rfl ?_
    refine XS.i2b X765.here hx rfl (hb hby d8_30) rfl ?_
    show Steps p.tables e below (T765.setTop (mkF m 31 #[.val (.ref tx), .val (.int 1), .val (.ref bb), .val (.int 1), .val (.int 3), .val (.int 1), .val (.int u1)] [(.int u1.toInt8.toInt32), (.int 1), (.ref bb)])) _
    rw [show u1.toInt8.toInt32 = (own_by u1) from rfl]
    show Steps p.tables e below (T765.setTop (mkF m 31 #[.val (.ref tx), .val (.int 1), .val (.ref bb), .val (.int 1), .val (.int 3), .val (.int 1), .val (.int u1)] [(.int (own_by u1)), (.int 1), (.ref bb)])) _
    exact kq)
  obtain ⟨cl772, Ar772, q772, S772, M772, H772, Gf772⟩ := id V765'
  have hi773 : ¬ ((1 : Int32) < 0 ∨ cl772.slots.size ≤ ((1 : Int32)).toNatClampNeg) := (inb_of S772 ⟨by decide, by decide⟩)
  obtain ⟨T774, h774, X774, e774, W774, st774⟩ := stB X765 hx hZ e765 Ar772 (j := (1 : Int32)) hi773 (g := (mkF m 31 #[.val (.ref tx), .val (.int 1), .val (.ref bb), .val (.int 1), .val (.int 3), .val (.int 1), .val (.int u1)] [(.int (own_by u1)), (.int 1), (.ref bb)])) rfl rfl (hb hby d8_31)
  rw [show nar .byte (own_by u1) = (own_by u1) from own_byN _] at W774
  have N774 := Fr.snoc X774 N765 gb
  have V774 := Arv.set Ar772 q772 S772 M772 H772 Gf772 (own_byF _) W774 1 rfl (Nat.le_of_ble_eq_true rfl)
  have V774' : Arv Z h774 bb kb .byte (3 : Int32) [(.int (own_by u0)), (.int (own_by u1)), (.int 0)] (.int 0) := by exact V774
  have G775 : Go p e below A0 (T774.setTop (mkF m 32 #[.val (.ref tx), .val (.int 1), .val (.ref bb), .val (.int 1), .val (.int 3), .val (.int 1), .val (.int u1)] [])) := fun tq kq => G771 tq (st774 _ kq)
  have G776 : Go p e below A0 (T774.setTop (mkF m 12 #[.val (.ref tx), .val (.int 2), .val (.ref bb), .val (.int 2), .val (.int 3), .val (.int 2), .val (.int u1)] [(.int 2), (.ref tx)])) := fun tq kq => G775 tq (by
    refine XS.iinc X774.here hx rfl (hb hby d8_32) rfl (l' := #[.val (.ref tx), .val (.int ((1 : Int32) + (1 : Int32))), .val (.ref bb), .val (.int 1), .val (.int 3), .val (.int 1), .val (.int u1)]) rfl ?_
    show Steps p.tables e below (T774.setTop (mkF m 35 #[.val (.ref tx), .val (.int ((1 : Int32) + (1 : Int32))), .val (.ref bb), .val (.int 1), .val (.int 3), .val (.int 1), .val (.int u1)] [])) _
    rw [show ((1 : Int32) + (1 : Int32)) = (2 : Int32) from (by decide : ((1 : Int32) + (1 : Int32)) = (2 : Int32))]
    show Steps p.tables e below (T774.setTop (mkF m 35 #[.val (.ref tx), .val (.int 2), .val (.ref bb), .val (.int 1), .val (.int 3), .val (.int 1), .val (.int u1)] [])) _
    refine XS.iinc X774.here hx rfl (hb hby d8_35) rfl (l' := #[.val (.ref tx), .val (.int 2), .val (.ref bb), .val (.int ((1 : Int32) + (1 : Int32))), .val (.int 3), .val (.int 1), .val (.int u1)]) rfl ?_
    show Steps p.tables e below (T774.setTop (mkF m 38 #[.val (.ref tx), .val (.int 2), .val (.ref bb), .val (.int ((1 : Int32) + (1 : Int32))), .val (.int 3), .val (.int 1), .val (.int u1)] [])) _
    rw [show ((1 : Int32) + (1 : Int32)) = (2 : Int32) from (by decide : ((1 : Int32) + (1 : Int32)) = (2 : Int32))]
    show Steps p.tables e below (T774.setTop (mkF m 38 #[.val (.ref tx), .val (.int 2), .val (.ref bb), .val (.int 2), .val (.int 3), .val (.int 1), .val (.int u1)] [])) _
    refine XS.iinc X774.here hx rfl (hb hby d8_38) rfl (l' := #[.val (.ref tx), .val (.int 2), .val (.ref bb), .val (.int 2), .val (.int 3), .val (.int ((1 : Int32) + (1 : Int32))), .val (.int u1)]) rfl ?_
    show Steps p.tables e below (T774.setTop (mkF m 41 #[.val (.ref tx), .val (.int 2), .val (.ref bb), .val (.int 2), .val (.int 3), .val (.int ((1 : Int32) + (1 : Int32))), .val (.int u1)] [])) _
    rw [show ((1 : Int32) + (1 : Int32)) = (2 : Int32) from (by decide : ((1 : Int32) + (1 : Int32)) = (2 : Int32))]
    show Steps p.tables e below (T774.setTop (mkF m 41 #[.val (.ref tx), .val (.int 2), .val (.ref bb), .val (.int 2), .val (.int 3), .val (.int 2), .val (.int u1)] [])) _
    refine XS.goto X774.here hx rfl (pc0 := 41) (pc' := 3) rfl (hb hby d8_41) (by decide) (by decide) ?_
    refine XS.iload X774.here hx rfl (hb hby d8_3) rfl ?_
    refine XS.iload X774.here hx rfl (hb hby d8_5) rfl ?_
    refine XS.icmpNo X774.here hx rfl (hb hby d8_7) rfl (by decide) ?_
    refine XS.aloadN X774.here hx rfl (hb hby d8_10) rfl rfl ?_
    refine XS.iloadN X774.here hx rfl (hb hby d8_11) rfl ?_
    exact kq)
  have f777 := (f768.other W774 htb)
  obtain ⟨cl778, Ar778, q778, S778, M778, H778, Gf778⟩ := id f777
  have hi779 : ¬ ((2 : Int32) < 0 ∨ cl778.slots.size ≤ ((2 : Int32)).toNatClampNeg) := (inb_of S778 ⟨by decide, by decide⟩)
  have G780 : Go p e below A0 (T774.setTop (mkF m 31 #[.val (.ref tx), .val (.int 2), .val (.ref bb), .val (.int 2), .val (.int 3), .val (.int 2), .val (.int u2)] [(.int (own_by u2)), (.int 2), (.ref bb)])) := fun tq kq => G776 tq (by
    refine X774.caload hx (j := (2 : Int32)) (v := (.int u2)) (by rw [e774]; exact Ar778.1) (State.isArrayOf_alike hZ.alike Ar778.2.1) Ar778.2.2 hi779 (H778.at hi779 rfl) (g := (mkF m 12 #[.val (.ref tx), .val (.int 2), .val (.ref bb), .val (.int 2), .val (.int 3), .val (.int 2), .val (.int u1)] [(.int 2), (.ref tx)])) rfl rfl (hb hby d8_12) _ ?_
    show Steps p.tables e below (T774.setTop (mkF m 13 #[.val (.ref tx), .val (.int 2), .val (.ref bb), .val (.int 2), .val (.int 3), .val (.int 2), .val (.int u1)] [(.int u2)])) _
    refine XS.istore X774.here hx rfl (hb hby d8_13) rfl (l' := #[.val (.ref tx), .val (.int 2), .val (.ref bb), .val (.int 2), .val (.int 3), .val (.int 2), .val (.int u2)]) rfl ?_
    refine XS.iload X774.here hx rfl (hb hby d8_15) rfl ?_
    refine XS.sipush X774.here hx rfl (hb hby d8_17) ?_
    refine XS.icmpYes X774.here hx rfl (pc0 := 20) (pc' := 26) rfl (hb hby d8_20) rfl (flt lu2).2.2.2 (by decide) (by decide) ?_
    refine XS.aloadN X774.here hx rfl (hb hby d8_26) rfl rfl ?_
    refine XS.iloadN X774.here hx rfl (hb hby d8_27) rfl ?_
    refine XS.iload X774.here hx rfl (hb hby d8_28) rfl ?_
    refine XS.i2b X774.here hx rfl (hb hby d8_30) rfl ?_
    show Steps p.tables e below (T774.setTop (mkF m 31 #[.val (.ref tx), .val (.int 2), .val (.ref bb), .val (.int 2), .val (.int 3), .val (.int 2), .val (.int u2)] [(.int u2.toInt8.toInt32), (.int 2), (.ref bb)])) _
    rw [show u2.toInt8.toInt32 = (own_by u2) from rfl]
    show Steps p.tables e below (T774.setTop (mkF m 31 #[.val (.ref tx), .val (.int 2), .val (.ref bb), .val (.int 2), .val (.int 3), .val (.int 2), .val (.int u2)] [(.int (own_by u2)), (.int 2), (.ref bb)])) _
    exact kq)
  obtain ⟨cl781, Ar781, q781, S781, M781, H781, Gf781⟩ := id V774'
  have hi782 : ¬ ((2 : Int32) < 0 ∨ cl781.slots.size ≤ ((2 : Int32)).toNatClampNeg) := (inb_of S781 ⟨by decide, by decide⟩)
  obtain ⟨T783, h783, X783, e783, W783, st783⟩ := stB X774 hx hZ e774 Ar781 (j := (2 : Int32)) hi782 (g := (mkF m 31 #[.val (.ref tx), .val (.int 2), .val (.ref bb), .val (.int 2), .val (.int 3), .val (.int 2), .val (.int u2)] [(.int (own_by u2)), (.int 2), (.ref bb)])) rfl rfl (hb hby d8_31)
  rw [show nar .byte (own_by u2) = (own_by u2) from own_byN _] at W783
  have N783 := Fr.snoc X783 N774 gb
  have V783 := Arv.set Ar781 q781 S781 M781 H781 Gf781 (own_byF _) W783 2 rfl (Nat.le_of_ble_eq_true rfl)
  have V783' : Arv Z h783 bb kb .byte (3 : Int32) [(.int (own_by u0)), (.int (own_by u1)), (.int (own_by u2))] (.int 0) := by exact V783
  have G784 : Go p e below A0 (T783.setTop (mkF m 32 #[.val (.ref tx), .val (.int 2), .val (.ref bb), .val (.int 2), .val (.int 3), .val (.int 2), .val (.int u2)] [])) := fun tq kq => G780 tq (st783 _ kq)
  have G785 : Go p e below A0 (T783.setTop (mkF m 46 #[.val (.ref tx), .val (.int 3), .val (.ref bb), .val (.int 3), .val (.int 3), .val (.int 3), .val (.int u2)] [(.int 3)])) := fun tq kq => G784 tq (by
    refine XS.iinc X783.here hx rfl (hb hby d8_32) rfl (l' := #[.val (.ref tx), .val (.int ((2 : Int32) + (1 : Int32))), .val (.ref bb), .val (.int 2), .val (.int 3), .val (.int 2), .val (.int u2)]) rfl ?_
    show Steps p.tables e below (T783.setTop (mkF m 35 #[.val (.ref tx), .val (.int ((2 : Int32) + (1 : Int32))), .val (.ref bb), .val (.int 2), .val (.int 3), .val (.int 2), .val (.int u2)] [])) _
    rw [show ((2 : Int32) + (1 : Int32)) = (3 : Int32) from (by decide : ((2 : Int32) + (1 : Int32)) = (3 : Int32))]
    show Steps p.tables e below (T783.setTop (mkF m 35 #[.val (.ref tx), .val (.int 3), .val (.ref bb), .val (.int 2), .val (.int 3), .val (.int 2), .val (.int u2)] [])) _
    refine XS.iinc X783.here hx rfl (hb hby d8_35) rfl (l' := #[.val (.ref tx), .val (.int 3), .val (.ref bb), .val (.int ((2 : Int32) + (1 : Int32))), .val (.int 3), .val (.int 2), .val (.int u2)]) rfl ?_
    show Steps p.tables e below (T783.setTop (mkF m 38 #[.val (.ref tx), .val (.int 3), .val (.ref bb), .val (.int ((2 : Int32) + (1 : Int32))), .val (.int 3), .val (.int 2), .val (.int u2)] [])) _
    rw [show ((2 : Int32) + (1 : Int32)) = (3 : Int32) from (by decide : ((2 : Int32) + (1 : Int32)) = (3 : Int32))]
    show Steps p.tables e below (T783.setTop (mkF m 38 #[.val (.ref tx), .val (.int 3), .val (.ref bb), .val (.int 3), .val (.int 3), .val (.int 2), .val (.int u2)] [])) _
    refine XS.iinc X783.here hx rfl (hb hby d8_38) rfl (l' := #[.val (.ref tx), .val (.int 3), .val (.ref bb), .val (.int 3), .val (.int 3), .val (.int ((2 : Int32) + (1 : Int32))), .val (.int u2)]) rfl ?_
    show Steps p.tables e below (T783.setTop (mkF m 41 #[.val (.ref tx), .val (.int 3), .val (.ref bb), .val (.int 3), .val (.int 3), .val (.int ((2 : Int32) + (1 : Int32))), .val (.int u2)] [])) _
    rw [show ((2 : Int32) + (1 : Int32)) = (3 : Int32) from (by decide : ((2 : Int32) + (1 : Int32)) = (3 : Int32))]
    show Steps p.tables e below (T783.setTop (mkF m 41 #[.val (.ref tx), .val (.int 3), .val (.ref bb), .val (.int 3), .val (.int 3), .val (.int 3), .val (.int u2)] [])) _
    refine XS.goto X783.here hx rfl (pc0 := 41) (pc' := 3) rfl (hb hby d8_41) (by decide) (by decide) ?_
    refine XS.iload X783.here hx rfl (hb hby d8_3) rfl ?_
    refine XS.iload X783.here hx rfl (hb hby d8_5) rfl ?_
    refine XS.icmpYes X783.here hx rfl (pc0 := 7) (pc' := 44) rfl (hb hby d8_7) rfl (by decide) (by decide) (by decide) ?_
    refine XS.iload X783.here hx rfl (hb hby d8_44) rfl ?_
    exact kq)
  obtain ⟨fs, hr, hrun, hended, hW, hsame⟩ := X783.leave (v := some (.int 3)) (fun h => by rw [Bd.returns] at h; cases h)
  refine ⟨_, _, (by rw [← hA0]; exact G785 _ (retOut X783 hx (t := .int) Bd.returns rfl (Or.inl ⟨rfl, Or.inl rfl, _, rfl⟩) (hb hby d8_46) hr)), hrun, hended, _, _, rfl, ?_, ⟨_, rfl⟩, hW, hsame.mono (by decide) (by decide)⟩
  show Qk33 Z bb kb u0 u1 u2 h0 n0 _ T783.heap _
  rw [e783]
  exact ⟨rfl, N783, ((((Keep.refl h0 [bb]).wr W765 (Or.inl (List.mem_of_getElem? (i := 0) rfl))).wr W774 (Or.inl (List.mem_of_getElem? (i := 0) rfl))).wr W783 (Or.inl (List.mem_of_getElem? (i := 0) rfl))), V783'⟩
def Qcp2 (Z : State) (u0 u1 : Int32) (h0 : Heap) (n0 : Nat) (v : Option Value) (h : Heap) (L : List Loc) : Prop := ∃ b kb, v = some (.ref b) ∧ Fr n0 L ∧ Keep h0 h [] ∧ h0.size ≤ b ∧ n0 ≤ b ∧ ((¬ (255 : Int32) < u0 ∧ ¬ (255 : Int32) < u1 ∧ Arv Z h b kb .byte (2 : Int32) [(.int (own_by u0)), (.int (own_by u1))] (.int 0)) ∨ Arv Z h b kb .byte (4 : Int32) [(.int (own_lo u0)), (.int (own_hi u0)), (.int (own_lo u1)), (.int (own_hi u1))] (.int 0))
set_option maxRecDepth 65536 in
set_option maxHeartbeats 40000000 in
theorem rmCp2 (l : Launch) (Z : State) (a0 : Array Value) (hw : ∀ d ∈ tables_1, d.before a0 Z = true) (ws : List Jvm.Cond) (tx : Addr) (kt : ClassId) (u0 u1 : Int32) (cs : Int32) (fo : Value) (h0 : Heap) (n0 : Nat) (Z0 : n0 ≤ h0.size) (At : Arv Z h0 tx kt .char (2 : Int32) [(.int u0), (.int u1)] (.int 0)) (ru0 : own_R u0) (ru1 : own_R u1) (hCS : Sta Z Z.heap "java/lang/String" "COMPACT_STRINGS" "Z" (.int cs)) (hcs : ¬ cs = (0 : Int32)) (hSF : Sta Z Z.heap "jdk/internal/util/Preconditions" "SIOOBE_FORMATTER" "Ljava/util/function/BiFunction;" fo) (hfo : fo.isRef = true) (hAD : Sta Z Z.heap "java/lang/StringUTF16" "$assertionsDisabled" "Z" (.int 1)) (hHI : Sta Z Z.heap "java/lang/StringUTF16" "HI_BYTE_SHIFT" "I" (.int 0)) (hLO : Sta Z Z.heap "java/lang/StringUTF16" "LO_BYTE_SHIFT" "I" (.int 8)) (hold : Old Z n0 h0) :
    MetFree l (⟨"java/lang/StringUTF16", "compress", "([CII)[B"⟩ : MethodName) (head1 (Jvm.Cond.code (⟨"java/lang/StringUTF16", "compress", "([CII)[B"⟩ : MethodName) jdk_52_method_16_code 6 (some (.array .byte)) :: ws) (Rm 3 2 6 40)) (fun aa UU => aa = #[(.ref tx), (.int 0), (.int 2)] ∧ Z.Warmed39 UU.vm ∧ UU.heap = h0) (fun _ _ _ _ _ => True) (fun _ UU oo U' => ∃ v L, oo = .returned v ∧ Qcp2 Z u0 u1 h0 n0 v U'.heap L ∧ FrameEnd UU oo U' L (Rm 3 2 6 40).cells (Rm 3 2 6 40).slots) := by
  refine MetFree.of_bodySF (plainFor_of_name pn_2) hisR ?_
  intro p e s m args below meth c s₁ Bd hml0 hP hK
  obtain ⟨rfl, hZ, hh⟩ := hP
  have hx := Bd.exec
  have hby := Bd.bytes
  have hml : c.maxLocals = 6 := hml0
  have hown : s.vm.findClass "java/lang/StringUTF16" = some m.cls := findClass_of_methodNamed Bd.named
  have hnm := (name_of_methodNamed Bd.named Bd.method).1
  have X0 : Stand p l e (Rm 3 2 6 40) s m #[(.ref tx), (.int 0), (.int 2)] below meth c s₁ [] 0 0 := Stand.of_body Bd
  have e0 : s₁.heap = h0 := by rw [← hh, Bd.state]; rfl
  have N0 := Fr.nil n0
  obtain ⟨A0, hA0⟩ : ∃ A, A = s₁.setTop (entryFrame m #[(.ref tx), (.int 0), (.int 2)] 6) := ⟨_, rfl⟩
  have G0 : Go p e below A0 (s₁.setTop (mkF m 0 #[.val (.ref tx), .val (.int 0), .val (.int 2), .unset, .unset, .unset] [])) := fun tq kq => by rw [hA0]; exact castTop (ef_rmCp2 m tx (0 : Int32) (2 : Int32)) kq
  by_cases hc786 : (255 : Int32) < u0
  · have G787 : Go p e below A0 (s₁.setTop (mkF m 1 #[.val (.ref tx), .val (.int 0), .val (.int 2), .unset, .unset, .unset] [(.int 2)])) := fun tq kq => G0 tq (by
      refine XS.iloadN X0.here hx rfl (hb hby d7_0) rfl ?_
      exact kq)
    obtain ⟨T788, h788, k788, X788, e788, E788, A788, st788⟩ := newP X0 hx hZ (wd hw 21 rfl) e0 (g := (mkF m 1 #[.val (.ref tx), .val (.int 0), .val (.int 2), .unset, .unset, .unset] [(.int 2)])) rfl (hb hby d7_1) rfl (by decide) (cap := 2) (by decide) (by decide) (by decide) (by decide)
    obtain ⟨b788, g788⟩ : ∃ z, z = h0.size := ⟨_, rfl⟩
    rw [← g788] at A788 st788
    have sz_b788 : h0.size ≤ b788 := Nat.le_trans (Nat.le_refl h0.size) (Nat.le_of_eq g788.symm)
    have g_b788 : n0 ≤ b788 := Nat.le_trans Z0 (Nat.le_of_eq g788.symm)
    have lt_tx_b788 : tx < b788 := Nat.lt_of_lt_of_le At.lt (Nat.le_of_eq g788.symm)
    have V788 : Arv Z h788 b788 k788 .byte (2 : Int32) [(.int 0), (.int 0)] (.int 0) := (Arv.new A788 (by decide)).pad (pad_rep [] (.int 0) 2)
    have G789 : Go p e below A0 (T788.setTop (mkF m 3 #[.val (.ref tx), .val (.int 0), .val (.int 2), .unset, .unset, .unset] [(.ref b788)])) := fun tq kq => G787 tq (st788 _ kq)
    have G790 : Go p e below A0 (T788.setTop (mkF m 9 #[.val (.ref tx), .val (.int 0), .val (.int 2), .val (.ref b788), .unset, .unset] [(.int 2), (.int 0), (.ref b788), (.int 0), (.ref tx)])) := fun tq kq => G789 tq (by
      refine XS.astoreN X788.here hx rfl (hb hby d7_3) rfl rfl (l' := #[.val (.ref tx), .val (.int 0), .val (.int 2), .val (.ref b788), .unset, .unset]) rfl ?_
      refine XS.aloadN X788.here hx rfl (hb hby d7_4) rfl rfl ?_
      refine XS.iloadN X788.here hx rfl (hb hby d7_5) rfl ?_
      refine XS.aloadN X788.here hx rfl (hb hby d7_6) rfl rfl ?_
      refine XS.iconst X788.here hx rfl (hb hby d7_7) ?_
      refine XS.iloadN X788.here hx rfl (hb hby d7_8) rfl ?_
      exact kq)
    have f792 := (Nat.le_trans Z0 E788.1)
    have f793 := (At.ext E788)
    obtain ⟨_, _, ⟨T791, L791, k791, n791⟩, -, X791, ⟨Lc791, hQ791, l791, y791, z791⟩, st791⟩ := Jvm.LawKit.callS X788 hx (y := (⟨"java/lang/StringUTF16", "compress", "([CI[BII)I"⟩ : MethodName)) hown (mvT hZ (wd hw 42 rfl)) (mvT hZ (wd hw 43 rfl)) (mvT hZ (wd hw 40 rfl)) (mvT hZ (wd hw 44 rfl)) (by decide) (backOf (W := 0) (rmK20 l Z a0 hw [] tx b788 kt k788 u0 u1 h788 n0 f792 f793 V788 g_b788 (Nat.ne_of_lt lt_tx_b788) ru0 ru1 hc786) hZ (wd hw 44 rfl) (wd hw 40 rfl) (by decide) (by decide)) (g := (mkF m 9 #[.val (.ref tx), .val (.int 0), .val (.int 2), .val (.ref b788), .unset, .unset] [(.int 2), (.int 0), (.ref b788), (.int 0), (.ref tx)])) rfl (by rw [hml]; rfl) (argsL := [(.ref tx), (.int 0), (.ref b788), (.int 0), (.int 2)]) (rest := []) (lenOf pd_13 rfl) rfl (by show 2 * 0 + _ ≤ _; exact Nat.le_of_eq rfl) (hb hby d7_9) (fun _ _ => ⟨rfl, e788, (by decide : 1 + 0 ≤ _), (by decide : 2 + 0 ≤ _)⟩)
    dsimp only [Pt.U, Pt.locs, Pt.cells, Pt.slots] at X791 l791 y791 z791 st791 hQ791
    obtain rfl : k791 = 1 := y791
    obtain rfl : n791 = 2 := z791
    obtain ⟨rfl, N791q, K791⟩ := hQ791
    have N791 : Fr n0 L791 := by rw [l791]; exact Fr.app N0 N791q
    have G794 : Go p e below A0 (T791.setTop (mkF m 12 #[.val (.ref tx), .val (.int 0), .val (.int 2), .val (.ref b788), .unset, .unset] [(.int 0)])) := fun tq kq => G790 tq (st791 _ kq)
    have G795 : Go p e below A0 (T791.setTop (mkF m 23 #[.val (.ref tx), .val (.int 0), .val (.int 2), .val (.ref b788), .val (.int 0), .unset] [(.int 2), (.int 0), (.ref tx)])) := fun tq kq => G794 tq (by
      refine XS.istore X791.here hx rfl (hb hby d7_12) rfl (l' := #[.val (.ref tx), .val (.int 0), .val (.int 2), .val (.ref b788), .val (.int 0), .unset]) rfl ?_
      refine XS.iload X791.here hx rfl (hb hby d7_14) rfl ?_
      refine XS.iloadN X791.here hx rfl (hb hby d7_16) rfl ?_
      refine XS.icmpNo X791.here hx rfl (hb hby d7_17) rfl (by decide) ?_
      refine XS.aloadN X791.here hx rfl (hb hby d7_20) rfl rfl ?_
      refine XS.iloadN X791.here hx rfl (hb hby d7_21) rfl ?_
      refine XS.iloadN X791.here hx rfl (hb hby d7_22) rfl ?_
      exact kq)
    have f797 := (Nat.le_trans f792 K791.1)
    have f798 := (Nat.le_trans (Nat.le_trans (Nat.le_refl h0.size) E788.1) K791.1)
    have f799 := (f793.keep K791 (ninS (Nat.ne_of_lt lt_tx_b788) nin0))
    have f800 := ((hold.ext E788).keep K791 (allS g_b788 all0))
    obtain ⟨_, _, ⟨T796, L796, k796, n796⟩, -, X796, ⟨Lc796, hQ796, l796, y796, z796⟩, st796⟩ := Jvm.LawKit.callS X791 hx (y := (⟨"java/lang/StringUTF16", "toBytes", "([CII)[B"⟩ : MethodName)) hown (mvT hZ (wd hw 102 rfl)) (mvT hZ (wd hw 103 rfl)) (mvT hZ (wd hw 40 rfl)) (mvT hZ (wd hw 104 rfl)) (by decide) (backOf (W := 0) (rmTB2 l Z a0 hw [] tx kt u0 u1 cs fo T791.heap n0 f797 f799 ru0 ru1 hCS hcs hSF hfo hAD hHI hLO f800) hZ (wd hw 104 rfl) (wd hw 40 rfl) (by decide) (by decide)) (g := (mkF m 23 #[.val (.ref tx), .val (.int 0), .val (.int 2), .val (.ref b788), .val (.int 0), .unset] [(.int 2), (.int 0), (.ref tx)])) rfl (by rw [hml]; rfl) (argsL := [(.ref tx), (.int 0), (.int 2)]) (rest := []) (lenOf pd_14 rfl) rfl (by show 2 * 0 + _ ≤ _; exact Nat.le_of_eq rfl) (hb hby d7_23) (fun _ _ => ⟨rfl, rfl, (by decide : 1 + 1 ≤ _), (by decide : 2 + 4 ≤ _)⟩)
    dsimp only [Pt.U, Pt.locs, Pt.cells, Pt.slots] at X796 l796 y796 z796 st796 hQ796
    obtain rfl : k796 = 2 := y796
    obtain rfl : n796 = 6 := z796
    obtain ⟨bb796, kk796, rfl, N796q, K796, hs796, hg796, Ab796⟩ := hQ796
    have N796 : Fr n0 L796 := by rw [l796]; exact Fr.app N791 N796q
    have lt_tx_bb796 : tx < bb796 := Nat.lt_of_lt_of_le f799.lt hs796
    have sz_bb796 : h0.size ≤ bb796 := Nat.le_trans f798 hs796
    have G801 : Go p e below A0 (T796.setTop (mkF m 26 #[.val (.ref tx), .val (.int 0), .val (.int 2), .val (.ref b788), .val (.int 0), .unset] [(.ref bb796)])) := fun tq kq => G795 tq (st796 _ kq)
    have G802 : Go p e below A0 (T796.setTop (mkF m 32 #[.val (.ref tx), .val (.int 0), .val (.int 2), .val (.ref b788), .val (.int 0), .val (.ref bb796)] [(.int 0), (.ref bb796)])) := fun tq kq => G801 tq (by
      refine XS.astore X796.here hx rfl (hb hby d7_26) rfl rfl (l' := #[.val (.ref tx), .val (.int 0), .val (.int 2), .val (.ref b788), .val (.int 0), .val (.ref bb796)]) rfl ?_
      refine XS.aload X796.here hx rfl (hb hby d7_28) rfl rfl ?_
      refine XS.iload X796.here hx rfl (hb hby d7_30) rfl ?_
      exact kq)
    have f804 := (Nat.le_trans f797 K796.1)
    have f805 := (f800.keep K796 all0)
    obtain ⟨_, _, ⟨T803, L803, k803, n803⟩, -, X803, ⟨Lc803, hQ803, l803, y803, z803⟩, st803⟩ := Jvm.LawKit.callS X796 hx (y := (⟨"java/lang/StringUTF16", "getChar", "([BI)C"⟩ : MethodName)) hown (mvT hZ (wd hw 118 rfl)) (mvT hZ (wd hw 119 rfl)) (mvT hZ (wd hw 40 rfl)) (mvT hZ (wd hw 120 rfl)) (by decide) (backOf (W := 0) (rmGC l Z a0 hw [] bb796 kk796 (own_cf u0 u1 u1) (0 : Int32) (2 : Int32) (4 : Int32) cs fo T796.heap n0 f804 ((Af.of Ab796).fn (own_cU2 u0 u1)) ⟨by decide, by decide, by decide⟩ ⟨by decide, by decide⟩ ru0 hCS hcs hSF hfo hAD hHI hLO f805) hZ (wd hw 120 rfl) (wd hw 40 rfl) (by decide) (by decide)) (g := (mkF m 32 #[.val (.ref tx), .val (.int 0), .val (.int 2), .val (.ref b788), .val (.int 0), .val (.ref bb796)] [(.int 0), (.ref bb796)])) rfl (by rw [hml]; rfl) (argsL := [(.ref bb796), (.int 0)]) (rest := []) (lenOf pd_4 rfl) rfl (by show 2 * 0 + _ ≤ _; exact Nat.le_of_eq rfl) (hb hby d7_32) (fun _ _ => ⟨rfl, rfl, (by decide : 2 + 0 ≤ _), (by decide : 6 + 0 ≤ _)⟩)
    dsimp only [Pt.U, Pt.locs, Pt.cells, Pt.slots] at X803 l803 y803 z803 st803 hQ803
    obtain rfl : k803 = 2 := y803
    obtain rfl : n803 = 6 := z803
    obtain ⟨rfl, N803q, e803⟩ := hQ803
    have N803 : Fr n0 L803 := by rw [l803]; exact Fr.app N796 N803q
    have G806 : Go p e below A0 (T803.setTop (mkF m 35 #[.val (.ref tx), .val (.int 0), .val (.int 2), .val (.ref b788), .val (.int 0), .val (.ref bb796)] [(.int u0)])) := fun tq kq => G802 tq (st803 _ kq)
    have G807 : Go p e below A0 (T803.setTop (mkF m 56 #[.val (.ref tx), .val (.int 0), .val (.int 2), .val (.ref b788), .val (.int 0), .val (.ref bb796)] [(.ref bb796)])) := fun tq kq => G806 tq (by
      refine XS.sipush X803.here hx rfl (hb hby d7_35) ?_
      refine XS.icmpYes X803.here hx rfl (pc0 := 38) (pc' := 54) rfl (hb hby d7_38) rfl (tlt hc786).2.2.1 (by decide) (by decide) ?_
      refine XS.aload X803.here hx rfl (hb hby d7_54) rfl rfl ?_
      exact kq)
    obtain ⟨fs, hr, hrun, hended, hW, hsame⟩ := X803.leave (v := some (.ref bb796)) (fun h => by rw [Bd.returns] at h; cases h)
    refine ⟨_, _, (by rw [← hA0]; exact G807 _ (retOut X803 hx (t := (.array .byte)) Bd.returns rfl (Or.inr (Or.inr (Or.inr (Or.inr ⟨rfl, rfl, rfl⟩)))) (hb hby d7_56) hr)), hrun, hended, _, _, rfl, ?_, ⟨_, rfl⟩, hW, hsame.mono (by decide) (by decide)⟩
    show Qcp2 Z u0 u1 h0 n0 _ T803.heap _
    rw [e803]
    exact ⟨bb796, kk796, rfl, N803, ((((Keep.refl h0 []).ext E788).trans K791 (allS (P := fun x => x ∈ [] ∨ h0.size ≤ x) (Or.inr sz_b788) all0)).trans K796 all0), sz_bb796, hg796, Or.inr Ab796⟩
  · by_cases hc808 : (255 : Int32) < u1
    · have G809 : Go p e below A0 (s₁.setTop (mkF m 1 #[.val (.ref tx), .val (.int 0), .val (.int 2), .unset, .unset, .unset] [(.int 2)])) := fun tq kq => G0 tq (by
        refine XS.iloadN X0.here hx rfl (hb hby d7_0) rfl ?_
        exact kq)
      obtain ⟨T810, h810, k810, X810, e810, E810, A810, st810⟩ := newP X0 hx hZ (wd hw 21 rfl) e0 (g := (mkF m 1 #[.val (.ref tx), .val (.int 0), .val (.int 2), .unset, .unset, .unset] [(.int 2)])) rfl (hb hby d7_1) rfl (by decide) (cap := 2) (by decide) (by decide) (by decide) (by decide)
      obtain ⟨b810, g810⟩ : ∃ z, z = h0.size := ⟨_, rfl⟩
      rw [← g810] at A810 st810
      have sz_b810 : h0.size ≤ b810 := Nat.le_trans (Nat.le_refl h0.size) (Nat.le_of_eq g810.symm)
      have g_b810 : n0 ≤ b810 := Nat.le_trans Z0 (Nat.le_of_eq g810.symm)
      have lt_tx_b810 : tx < b810 := Nat.lt_of_lt_of_le At.lt (Nat.le_of_eq g810.symm)
      have V810 : Arv Z h810 b810 k810 .byte (2 : Int32) [(.int 0), (.int 0)] (.int 0) := (Arv.new A810 (by decide)).pad (pad_rep [] (.int 0) 2)
      have G811 : Go p e below A0 (T810.setTop (mkF m 3 #[.val (.ref tx), .val (.int 0), .val (.int 2), .unset, .unset, .unset] [(.ref b810)])) := fun tq kq => G809 tq (st810 _ kq)
      have G812 : Go p e below A0 (T810.setTop (mkF m 9 #[.val (.ref tx), .val (.int 0), .val (.int 2), .val (.ref b810), .unset, .unset] [(.int 2), (.int 0), (.ref b810), (.int 0), (.ref tx)])) := fun tq kq => G811 tq (by
        refine XS.astoreN X810.here hx rfl (hb hby d7_3) rfl rfl (l' := #[.val (.ref tx), .val (.int 0), .val (.int 2), .val (.ref b810), .unset, .unset]) rfl ?_
        refine XS.aloadN X810.here hx rfl (hb hby d7_4) rfl rfl ?_
        refine XS.iloadN X810.here hx rfl (hb hby d7_5) rfl ?_
        refine XS.aloadN X810.here hx rfl (hb hby d7_6) rfl rfl ?_
        refine XS.iconst X810.here hx rfl (hb hby d7_7) ?_
        refine XS.iloadN X810.here hx rfl (hb hby d7_8) rfl ?_
        exact kq)
      have f814 := (Nat.le_trans Z0 E810.1)
      have f815 := (At.ext E810)
      obtain ⟨_, _, ⟨T813, L813, k813, n813⟩, -, X813, ⟨Lc813, hQ813, l813, y813, z813⟩, st813⟩ := Jvm.LawKit.callS X810 hx (y := (⟨"java/lang/StringUTF16", "compress", "([CI[BII)I"⟩ : MethodName)) hown (mvT hZ (wd hw 42 rfl)) (mvT hZ (wd hw 43 rfl)) (mvT hZ (wd hw 40 rfl)) (mvT hZ (wd hw 44 rfl)) (by decide) (backOf (W := 0) (rmK21 l Z a0 hw [] tx b810 kt k810 u0 u1 h810 n0 f814 f815 V810 g_b810 (Nat.ne_of_lt lt_tx_b810) ru0 ru1 hc786 hc808) hZ (wd hw 44 rfl) (wd hw 40 rfl) (by decide) (by decide)) (g := (mkF m 9 #[.val (.ref tx), .val (.int 0), .val (.int 2), .val (.ref b810), .unset, .unset] [(.int 2), (.int 0), (.ref b810), (.int 0), (.ref tx)])) rfl (by rw [hml]; rfl) (argsL := [(.ref tx), (.int 0), (.ref b810), (.int 0), (.int 2)]) (rest := []) (lenOf pd_13 rfl) rfl (by show 2 * 0 + _ ≤ _; exact Nat.le_of_eq rfl) (hb hby d7_9) (fun _ _ => ⟨rfl, e810, (by decide : 1 + 0 ≤ _), (by decide : 2 + 0 ≤ _)⟩)
      dsimp only [Pt.U, Pt.locs, Pt.cells, Pt.slots] at X813 l813 y813 z813 st813 hQ813
      obtain rfl : k813 = 1 := y813
      obtain rfl : n813 = 2 := z813
      obtain ⟨rfl, N813q, K813⟩ := hQ813
      have N813 : Fr n0 L813 := by rw [l813]; exact Fr.app N0 N813q
      have G816 : Go p e below A0 (T813.setTop (mkF m 12 #[.val (.ref tx), .val (.int 0), .val (.int 2), .val (.ref b810), .unset, .unset] [(.int 1)])) := fun tq kq => G812 tq (st813 _ kq)
      have G817 : Go p e below A0 (T813.setTop (mkF m 23 #[.val (.ref tx), .val (.int 0), .val (.int 2), .val (.ref b810), .val (.int 1), .unset] [(.int 2), (.int 0), (.ref tx)])) := fun tq kq => G816 tq (by
        refine XS.istore X813.here hx rfl (hb hby d7_12) rfl (l' := #[.val (.ref tx), .val (.int 0), .val (.int 2), .val (.ref b810), .val (.int 1), .unset]) rfl ?_
        refine XS.iload X813.here hx rfl (hb hby d7_14) rfl ?_
        refine XS.iloadN X813.here hx rfl (hb hby d7_16) rfl ?_
        refine XS.icmpNo X813.here hx rfl (hb hby d7_17) rfl (by decide) ?_
        refine XS.aloadN X813.here hx rfl (hb hby d7_20) rfl rfl ?_
        refine XS.iloadN X813.here hx rfl (hb hby d7_21) rfl ?_
        refine XS.iloadN X813.here hx rfl (hb hby d7_22) rfl ?_
        exact kq)
      have f819 := (Nat.le_trans f814 K813.1)
      have f820 := (Nat.le_trans (Nat.le_trans (Nat.le_refl h0.size) E810.1) K813.1)
      have f821 := (f815.keep K813 (ninS (Nat.ne_of_lt lt_tx_b810) nin0))
      have f822 := ((hold.ext E810).keep K813 (allS g_b810 all0))
      obtain ⟨_, _, ⟨T818, L818, k818, n818⟩, -, X818, ⟨Lc818, hQ818, l818, y818, z818⟩, st818⟩ := Jvm.LawKit.callS X813 hx (y := (⟨"java/lang/StringUTF16", "toBytes", "([CII)[B"⟩ : MethodName)) hown (mvT hZ (wd hw 102 rfl)) (mvT hZ (wd hw 103 rfl)) (mvT hZ (wd hw 40 rfl)) (mvT hZ (wd hw 104 rfl)) (by decide) (backOf (W := 0) (rmTB2 l Z a0 hw [] tx kt u0 u1 cs fo T813.heap n0 f819 f821 ru0 ru1 hCS hcs hSF hfo hAD hHI hLO f822) hZ (wd hw 104 rfl) (wd hw 40 rfl) (by decide) (by decide)) (g := (mkF m 23 #[.val (.ref tx), .val (.int 0), .val (.int 2), .val (.ref b810), .val (.int 1), .unset] [(.int 2), (.int 0), (.ref tx)])) rfl (by rw [hml]; rfl) (argsL := [(.ref tx), (.int 0), (.int 2)]) (rest := []) (lenOf pd_14 rfl) rfl (by show 2 * 0 + _ ≤ _; exact Nat.le_of_eq rfl) (hb hby d7_23) (fun _ _ => ⟨rfl, rfl, (by decide : 1 + 1 ≤ _), (by decide : 2 + 4 ≤ _)⟩)
      dsimp only [Pt.U, Pt.locs, Pt.cells, Pt.slots] at X818 l818 y818 z818 st818 hQ818
      obtain rfl : k818 = 2 := y818
      obtain rfl : n818 = 6 := z818
      obtain ⟨bb818, kk818, rfl, N818q, K818, hs818, hg818, Ab818⟩ := hQ818
      have N818 : Fr n0 L818 := by rw [l818]; exact Fr.app N813 N818q
      have lt_tx_bb818 : tx < bb818 := Nat.lt_of_lt_of_le f821.lt hs818
      have sz_bb818 : h0.size ≤ bb818 := Nat.le_trans f820 hs818
      have G823 : Go p e below A0 (T818.setTop (mkF m 26 #[.val (.ref tx), .val (.int 0), .val (.int 2), .val (.ref b810), .val (.int 1), .unset] [(.ref bb818)])) := fun tq kq => G817 tq (st818 _ kq)
      have G824 : Go p e below A0 (T818.setTop (mkF m 32 #[.val (.ref tx), .val (.int 0), .val (.int 2), .val (.ref b810), .val (.int 1), .val (.ref bb818)] [(.int 1), (.ref bb818)])) := fun tq kq => G823 tq (by
        refine XS.astore X818.here hx rfl (hb hby d7_26) rfl rfl (l' := #[.val (.ref tx), .val (.int 0), .val (.int 2), .val (.ref b810), .val (.int 1), .val (.ref bb818)]) rfl ?_
        refine XS.aload X818.here hx rfl (hb hby d7_28) rfl rfl ?_
        refine XS.iload X818.here hx rfl (hb hby d7_30) rfl ?_
        exact kq)
      have f826 := (Nat.le_trans f819 K818.1)
      have f827 := (f822.keep K818 all0)
      obtain ⟨_, _, ⟨T825, L825, k825, n825⟩, -, X825, ⟨Lc825, hQ825, l825, y825, z825⟩, st825⟩ := Jvm.LawKit.callS X818 hx (y := (⟨"java/lang/StringUTF16", "getChar", "([BI)C"⟩ : MethodName)) hown (mvT hZ (wd hw 118 rfl)) (mvT hZ (wd hw 119 rfl)) (mvT hZ (wd hw 40 rfl)) (mvT hZ (wd hw 120 rfl)) (by decide) (backOf (W := 0) (rmGC l Z a0 hw [] bb818 kk818 (own_cf u0 u1 u1) (1 : Int32) (2 : Int32) (4 : Int32) cs fo T818.heap n0 f826 ((Af.of Ab818).fn (own_cU2 u0 u1)) ⟨by decide, by decide, by decide⟩ ⟨by decide, by decide⟩ ru1 hCS hcs hSF hfo hAD hHI hLO f827) hZ (wd hw 120 rfl) (wd hw 40 rfl) (by decide) (by decide)) (g := (mkF m 32 #[.val (.ref tx), .val (.int 0), .val (.int 2), .val (.ref b810), .val (.int 1), .val (.ref bb818)] [(.int 1), (.ref bb818)])) rfl (by rw [hml]; rfl) (argsL := [(.ref bb818), (.int 1)]) (rest := []) (lenOf pd_4 rfl) rfl (by show 2 * 0 + _ ≤ _; exact Nat.le_of_eq rfl) (hb hby d7_32) (fun _ _ => ⟨rfl, rfl, (by decide : 2 + 0 ≤ _), (by decide : 6 + 0 ≤ _)⟩)
      dsimp only [Pt.U, Pt.locs, Pt.cells, Pt.slots] at X825 l825 y825 z825 st825 hQ825
      obtain rfl : k825 = 2 := y825
      obtain rfl : n825 = 6 := z825
      obtain ⟨rfl, N825q, e825⟩ := hQ825
      have N825 : Fr n0 L825 := by rw [l825]; exact Fr.app N818 N825q
      have G828 : Go p e below A0 (T825.setTop (mkF m 35 #[.val (.ref tx), .val (.int 0), .val (.int 2), .val (.ref b810), .val (.int 1), .val (.ref bb818)] [(.int u1)])) := fun tq kq => G824 tq (st825 _ kq)
      have G829 : Go p e below A0 (T825.setTop (mkF m 56 #[.val (.ref tx), .val (.int 0), .val (.int 2), .val (.ref b810), .val (.int 1), .val (.ref bb818)] [(.ref bb818)])) := fun tq kq => G828 tq (by
        refine XS.sipush X825.here hx rfl (hb hby d7_35) ?_
        refine XS.icmpYes X825.here hx rfl (pc0 := 38) (pc' := 54) rfl (hb hby d7_38) rfl (tlt hc808).2.2.1 (by decide) (by decide) ?_
        refine XS.aload X825.here hx rfl (hb hby d7_54) rfl rfl ?_
        exact kq)
      obtain ⟨fs, hr, hrun, hended, hW, hsame⟩ := X825.leave (v := some (.ref bb818)) (fun h => by rw [Bd.returns] at h; cases h)
      refine ⟨_, _, (by rw [← hA0]; exact G829 _ (retOut X825 hx (t := (.array .byte)) Bd.returns rfl (Or.inr (Or.inr (Or.inr (Or.inr ⟨rfl, rfl, rfl⟩)))) (hb hby d7_56) hr)), hrun, hended, _, _, rfl, ?_, ⟨_, rfl⟩, hW, hsame.mono (by decide) (by decide)⟩
      show Qcp2 Z u0 u1 h0 n0 _ T825.heap _
      rw [e825]
      exact ⟨bb818, kk818, rfl, N825, ((((Keep.refl h0 []).ext E810).trans K813 (allS (P := fun x => x ∈ [] ∨ h0.size ≤ x) (Or.inr sz_b810) all0)).trans K818 all0), sz_bb818, hg818, Or.inr Ab818⟩
    · have G830 : Go p e below A0 (s₁.setTop (mkF m 1 #[.val (.ref tx), .val (.int 0), .val (.int 2), .unset, .unset, .unset] [(.int 2)])) := fun tq kq => G0 tq (by
        refine XS.iloadN X0.here hx rfl (hb hby d7_0) rfl ?_
        exact kq)
      obtain ⟨T831, h831, k831, X831, e831, E831, A831, st831⟩ := newP X0 hx hZ (wd hw 21 rfl) e0 (g := (mkF m 1 #[.val (.ref tx), .val (.int 0), .val (.int 2), .unset, .unset, .unset] [(.int 2)])) rfl (hb hby d7_1) rfl (by decide) (cap := 2) (by decide) (by decide) (by decide) (by decide)
      obtain ⟨b831, g831⟩ : ∃ z, z = h0.size := ⟨_, rfl⟩
      rw [← g831] at A831 st831
      have sz_b831 : h0.size ≤ b831 := Nat.le_trans (Nat.le_refl h0.size) (Nat.le_of_eq g831.symm)
      have g_b831 : n0 ≤ b831 := Nat.le_trans Z0 (Nat.le_of_eq g831.symm)
      have lt_tx_b831 : tx < b831 := Nat.lt_of_lt_of_le At.lt (Nat.le_of_eq g831.symm)
      have V831 : Arv Z h831 b831 k831 .byte (2 : Int32) [(.int 0), (.int 0)] (.int 0) := (Arv.new A831 (by decide)).pad (pad_rep [] (.int 0) 2)
      have G832 : Go p e below A0 (T831.setTop (mkF m 3 #[.val (.ref tx), .val (.int 0), .val (.int 2), .unset, .unset, .unset] [(.ref b831)])) := fun tq kq => G830 tq (st831 _ kq)
      have G833 : Go p e below A0 (T831.setTop (mkF m 9 #[.val (.ref tx), .val (.int 0), .val (.int 2), .val (.ref b831), .unset, .unset] [(.int 2), (.int 0), (.ref b831), (.int 0), (.ref tx)])) := fun tq kq => G832 tq (by
        refine XS.astoreN X831.here hx rfl (hb hby d7_3) rfl rfl (l' := #[.val (.ref tx), .val (.int 0), .val (.int 2), .val (.ref b831), .unset, .unset]) rfl ?_
        refine XS.aloadN X831.here hx rfl (hb hby d7_4) rfl rfl ?_
        refine XS.iloadN X831.here hx rfl (hb hby d7_5) rfl ?_
        refine XS.aloadN X831.here hx rfl (hb hby d7_6) rfl rfl ?_
        refine XS.iconst X831.here hx rfl (hb hby d7_7) ?_
        refine XS.iloadN X831.here hx rfl (hb hby d7_8) rfl ?_
        exact kq)
      have f835 := (Nat.le_trans Z0 E831.1)
      have f836 := (At.ext E831)
      obtain ⟨_, _, ⟨T834, L834, k834, n834⟩, -, X834, ⟨Lc834, hQ834, l834, y834, z834⟩, st834⟩ := Jvm.LawKit.callS X831 hx (y := (⟨"java/lang/StringUTF16", "compress", "([CI[BII)I"⟩ : MethodName)) hown (mvT hZ (wd hw 42 rfl)) (mvT hZ (wd hw 43 rfl)) (mvT hZ (wd hw 40 rfl)) (mvT hZ (wd hw 44 rfl)) (by decide) (backOf (W := 0) (rmK22 l Z a0 hw [] tx b831 kt k831 u0 u1 h831 n0 f835 f836 V831 g_b831 (Nat.ne_of_lt lt_tx_b831) ru0 ru1 hc786 hc808) hZ (wd hw 44 rfl) (wd hw 40 rfl) (by decide) (by decide)) (g := (mkF m 9 #[.val (.ref tx), .val (.int 0), .val (.int 2), .val (.ref b831), .unset, .unset] [(.int 2), (.int 0), (.ref b831), (.int 0), (.ref tx)])) rfl (by rw [hml]; rfl) (argsL := [(.ref tx), (.int 0), (.ref b831), (.int 0), (.int 2)]) (rest := []) (lenOf pd_13 rfl) rfl (by show 2 * 0 + _ ≤ _; exact Nat.le_of_eq rfl) (hb hby d7_9) (fun _ _ => ⟨rfl, e831, (by decide : 1 + 0 ≤ _), (by decide : 2 + 0 ≤ _)⟩)
      dsimp only [Pt.U, Pt.locs, Pt.cells, Pt.slots] at X834 l834 y834 z834 st834 hQ834
      obtain rfl : k834 = 1 := y834
      obtain rfl : n834 = 2 := z834
      obtain ⟨rfl, N834q, K834, Ab834⟩ := hQ834
      have N834 : Fr n0 L834 := by rw [l834]; exact Fr.app N0 N834q
      have G837 : Go p e below A0 (T834.setTop (mkF m 12 #[.val (.ref tx), .val (.int 0), .val (.int 2), .val (.ref b831), .unset, .unset] [(.int 2)])) := fun tq kq => G833 tq (st834 _ kq)
      have G838 : Go p e below A0 (T834.setTop (mkF m 58 #[.val (.ref tx), .val (.int 0), .val (.int 2), .val (.ref b831), .val (.int 2), .unset] [(.ref b831)])) := fun tq kq => G837 tq (by
        refine XS.istore X834.here hx rfl (hb hby d7_12) rfl (l' := #[.val (.ref tx), .val (.int 0), .val (.int 2), .val (.ref b831), .val (.int 2), .unset]) rfl ?_
        refine XS.iload X834.here hx rfl (hb hby d7_14) rfl ?_
        refine XS.iloadN X834.here hx rfl (hb hby d7_16) rfl ?_
        refine XS.icmpYes X834.here hx rfl (pc0 := 17) (pc' := 57) rfl (hb hby d7_17) rfl (by decide) (by decide) (by decide) ?_
        refine XS.aloadN X834.here hx rfl (hb hby d7_57) rfl rfl ?_
        exact kq)
      obtain ⟨fs, hr, hrun, hended, hW, hsame⟩ := X834.leave (v := some (.ref b831)) (fun h => by rw [Bd.returns] at h; cases h)
      refine ⟨_, _, (by rw [← hA0]; exact G838 _ (retOut X834 hx (t := (.array .byte)) Bd.returns rfl (Or.inr (Or.inr (Or.inr (Or.inr ⟨rfl, rfl, rfl⟩)))) (hb hby d7_58) hr)), hrun, hended, _, _, rfl, ?_, ⟨_, rfl⟩, hW, hsame.mono (by decide) (by decide)⟩
      show Qcp2 Z u0 u1 h0 n0 _ T834.heap _
      exact ⟨b831, k831, rfl, N834, (((Keep.refl h0 []).ext E831).trans K834 (allS (P := fun x => x ∈ [] ∨ h0.size ≤ x) (Or.inr sz_b831) all0)), sz_b831, g_b831, Or.inl ⟨hc786, hc808, Ab834⟩⟩
def Qcp3 (Z : State) (u0 u1 u2 : Int32) (h0 : Heap) (n0 : Nat) (v : Option Value) (h : Heap) (L : List Loc) : Prop := ∃ b kb, v = some (.ref b) ∧ Fr n0 L ∧ Keep h0 h [] ∧ h0.size ≤ b ∧ n0 ≤ b ∧ ((¬ (255 : Int32) < u0 ∧ ¬ (255 : Int32) < u1 ∧ ¬ (255 : Int32) < u2 ∧ Arv Z h b kb .byte (3 : Int32) [(.int (own_by u0)), (.int (own_by u1)), (.int (own_by u2))] (.int 0)) ∨ Arv Z h b kb .byte (6 : Int32) [(.int (own_lo u0)), (.int (own_hi u0)), (.int (own_lo u1)), (.int (own_hi u1)), (.int (own_lo u2)), (.int (own_hi u2))] (.int 0))
set_option maxRecDepth 65536 in
set_option maxHeartbeats 40000000 in
theorem rmCp3 (l : Launch) (Z : State) (a0 : Array Value) (hw : ∀ d ∈ tables_1, d.before a0 Z = true) (ws : List Jvm.Cond) (tx : Addr) (kt : ClassId) (u0 u1 u2 : Int32) (cs : Int32) (fo : Value) (h0 : Heap) (n0 : Nat) (Z0 : n0 ≤ h0.size) (At : Arv Z h0 tx kt .char (3 : Int32) [(.int u0), (.int u1), (.int u2)] (.int 0)) (ru0 : own_R u0) (ru1 : own_R u1) (ru2 : own_R u2) (hCS : Sta Z Z.heap "java/lang/String" "COMPACT_STRINGS" "Z" (.int cs)) (hcs : ¬ cs = (0 : Int32)) (hSF : Sta Z Z.heap "jdk/internal/util/Preconditions" "SIOOBE_FORMATTER" "Ljava/util/function/BiFunction;" fo) (hfo : fo.isRef = true) (hAD : Sta Z Z.heap "java/lang/StringUTF16" "$assertionsDisabled" "Z" (.int 1)) (hHI : Sta Z Z.heap "java/lang/StringUTF16" "HI_BYTE_SHIFT" "I" (.int 0)) (hLO : Sta Z Z.heap "java/lang/StringUTF16" "LO_BYTE_SHIFT" "I" (.int 8)) (hold : Old Z n0 h0) :
    MetFree l (⟨"java/lang/StringUTF16", "compress", "([CII)[B"⟩ : MethodName) (head1 (Jvm.Cond.code (⟨"java/lang/StringUTF16", "compress", "([CII)[B"⟩ : MethodName) jdk_52_method_16_code 6 (some (.array .byte)) :: ws) (Rm 3 2 9 40)) (fun aa UU => aa = #[(.ref tx), (.int 0), (.int 3)] ∧ Z.Warmed39 UU.vm ∧ UU.heap = h0) (fun _ _ _ _ _ => True) (fun _ UU oo U' => ∃ v L, oo = .returned v ∧ Qcp3 Z u0 u1 u2 h0 n0 v U'.heap L ∧ FrameEnd UU oo U' L (Rm 3 2 9 40).cells (Rm 3 2 9 40).slots) := by
  refine MetFree.of_bodySF (plainFor_of_name pn_2) hisR ?_
  intro p e s m args below meth c s₁ Bd hml0 hP hK
  obtain ⟨rfl, hZ, hh⟩ := hP
  have hx := Bd.exec
  have hby := Bd.bytes
  have hml : c.maxLocals = 6 := hml0
  have hown : s.vm.findClass "java/lang/StringUTF16" = some m.cls := findClass_of_methodNamed Bd.named
  have hnm := (name_of_methodNamed Bd.named Bd.method).1
  have X0 : Stand p l e (Rm 3 2 9 40) s m #[(.ref tx), (.int 0), (.int 3)] below meth c s₁ [] 0 0 := Stand.of_body Bd
  have e0 : s₁.heap = h0 := by rw [← hh, Bd.state]; rfl
  have N0 := Fr.nil n0
  obtain ⟨A0, hA0⟩ : ∃ A, A = s₁.setTop (entryFrame m #[(.ref tx), (.int 0), (.int 3)] 6) := ⟨_, rfl⟩
  have G0 : Go p e below A0 (s₁.setTop (mkF m 0 #[.val (.ref tx), .val (.int 0), .val (.int 3), .unset, .unset, .unset] [])) := fun tq kq => by rw [hA0]; exact castTop (ef_rmCp3 m tx (0 : Int32) (3 : Int32)) kq
  by_cases hc839 : (255 : Int32) < u0
  · have G840 : Go p e below A0 (s₁.setTop (mkF m 1 #[.val (.ref tx), .val (.int 0), .val (.int 3), .unset, .unset, .unset] [(.int 3)])) := fun tq kq => G0 tq (by
      refine XS.iloadN X0.here hx rfl (hb hby d7_0) rfl ?_
      exact kq)
    obtain ⟨T841, h841, k841, X841, e841, E841, A841, st841⟩ := newP X0 hx hZ (wd hw 21 rfl) e0 (g := (mkF m 1 #[.val (.ref tx), .val (.int 0), .val (.int 3), .unset, .unset, .unset] [(.int 3)])) rfl (hb hby d7_1) rfl (by decide) (cap := 3) (by decide) (by decide) (by decide) (by decide)
    obtain ⟨b841, g841⟩ : ∃ z, z = h0.size := ⟨_, rfl⟩
    rw [← g841] at A841 st841
    have sz_b841 : h0.size ≤ b841 := Nat.le_trans (Nat.le_refl h0.size) (Nat.le_of_eq g841.symm)
    have g_b841 : n0 ≤ b841 := Nat.le_trans Z0 (Nat.le_of_eq g841.symm)
    have lt_tx_b841 : tx < b841 := Nat.lt_of_lt_of_le At.lt (Nat.le_of_eq g841.symm)
    have V841 : Arv Z h841 b841 k841 .byte (3 : Int32) [(.int 0), (.int 0), (.int 0)] (.int 0) := (Arv.new A841 (by decide)).pad (pad_rep [] (.int 0) 3)
    have G842 : Go p e below A0 (T841.setTop (mkF m 3 #[.val (.ref tx), .val (.int 0), .val (.int 3), .unset, .unset, .unset] [(.ref b841)])) := fun tq kq => G840 tq (st841 _ kq)
    have G843 : Go p e below A0 (T841.setTop (mkF m 9 #[.val (.ref tx), .val (.int 0), .val (.int 3), .val (.ref b841), .unset, .unset] [(.int 3), (.int 0), (.ref b841), (.int 0), (.ref tx)])) := fun tq kq => G842 tq (by
      refine XS.astoreN X841.here hx rfl (hb hby d7_3) rfl rfl (l' := #[.val (.ref tx), .val (.int 0), .val (.int 3), .val (.ref b841), .unset, .unset]) rfl ?_
      refine XS.aloadN X841.here hx rfl (hb hby d7_4) rfl rfl ?_
      refine XS.iloadN X841.here hx rfl (hb hby d7_5) rfl ?_
      refine XS.aloadN X841.here hx rfl (hb hby d7_6) rfl rfl ?_
      refine XS.iconst X841.here hx rfl (hb hby d7_7) ?_
      refine XS.iloadN X841.here hx rfl (hb hby d7_8) rfl ?_
      exact kq)
    have f845 := (Nat.le_trans Z0 E841.1)
    have f846 := (At.ext E841)
    obtain ⟨_, _, ⟨T844, L844, k844, n844⟩, -, X844, ⟨Lc844, hQ844, l844, y844, z844⟩, st844⟩ := Jvm.LawKit.callS X841 hx (y := (⟨"java/lang/StringUTF16", "compress", "([CI[BII)I"⟩ : MethodName)) hown (mvT hZ (wd hw 42 rfl)) (mvT hZ (wd hw 43 rfl)) (mvT hZ (wd hw 40 rfl)) (mvT hZ (wd hw 44 rfl)) (by decide) (backOf (W := 0) (rmK30 l Z a0 hw [] tx b841 kt k841 u0 u1 u2 h841 n0 f845 f846 V841 g_b841 (Nat.ne_of_lt lt_tx_b841) ru0 ru1 ru2 hc839) hZ (wd hw 44 rfl) (wd hw 40 rfl) (by decide) (by decide)) (g := (mkF m 9 #[.val (.ref tx), .val (.int 0), .val (.int 3), .val (.ref b841), .unset, .unset] [(.int 3), (.int 0), (.ref b841), (.int 0), (.ref tx)])) rfl (by rw [hml]; rfl) (argsL := [(.ref tx), (.int 0), (.ref b841), (.int 0), (.int 3)]) (rest := []) (lenOf pd_13 rfl) rfl (by show 2 * 0 + _ ≤ _; exact Nat.le_of_eq rfl) (hb hby d7_9) (fun _ _ => ⟨rfl, e841, (by decide : 1 + 0 ≤ _), (by decide : 3 + 0 ≤ _)⟩)
    dsimp only [Pt.U, Pt.locs, Pt.cells, Pt.slots] at X844 l844 y844 z844 st844 hQ844
    obtain rfl : k844 = 1 := y844
    obtain rfl : n844 = 3 := z844
    obtain ⟨rfl, N844q, K844⟩ := hQ844
    have N844 : Fr n0 L844 := by rw [l844]; exact Fr.app N0 N844q
    have G847 : Go p e below A0 (T844.setTop (mkF m 12 #[.val (.ref tx), .val (.int 0), .val (.int 3), .val (.ref b841), .unset, .unset] [(.int 0)])) := fun tq kq => G843 tq (st844 _ kq)
    have G848 : Go p e below A0 (T844.setTop (mkF m 23 #[.val (.ref tx), .val (.int 0), .val (.int 3), .val (.ref b841), .val (.int 0), .unset] [(.int 3), (.int 0), (.ref tx)])) := fun tq kq => G847 tq (by
      refine XS.istore X844.here hx rfl (hb hby d7_12) rfl (l' := #[.val (.ref tx), .val (.int 0), .val (.int 3), .val (.ref b841), .val (.int 0), .unset]) rfl ?_
      refine XS.iload X844.here hx rfl (hb hby d7_14) rfl ?_
      refine XS.iloadN X844.here hx rfl (hb hby d7_16) rfl ?_
      refine XS.icmpNo X844.here hx rfl (hb hby d7_17) rfl (by decide) ?_
      refine XS.aloadN X844.here hx rfl (hb hby d7_20) rfl rfl ?_
      refine XS.iloadN X844.here hx rfl (hb hby d7_21) rfl ?_
      refine XS.iloadN X844.here hx rfl (hb hby d7_22) rfl ?_
      exact kq)
    have f850 := (Nat.le_trans f845 K844.1)
    have f851 := (Nat.le_trans (Nat.le_trans (Nat.le_refl h0.size) E841.1) K844.1)
    have f852 := (f846.keep K844 (ninS (Nat.ne_of_lt lt_tx_b841) nin0))
    have f853 := ((hold.ext E841).keep K844 (allS g_b841 all0))
    obtain ⟨_, _, ⟨T849, L849, k849, n849⟩, -, X849, ⟨Lc849, hQ849, l849, y849, z849⟩, st849⟩ := Jvm.LawKit.callS X844 hx (y := (⟨"java/lang/StringUTF16", "toBytes", "([CII)[B"⟩ : MethodName)) hown (mvT hZ (wd hw 102 rfl)) (mvT hZ (wd hw 103 rfl)) (mvT hZ (wd hw 40 rfl)) (mvT hZ (wd hw 104 rfl)) (by decide) (backOf (W := 0) (rmTB3 l Z a0 hw [] tx kt u0 u1 u2 cs fo T844.heap n0 f850 f852 ru0 ru1 ru2 hCS hcs hSF hfo hAD hHI hLO f853) hZ (wd hw 104 rfl) (wd hw 40 rfl) (by decide) (by decide)) (g := (mkF m 23 #[.val (.ref tx), .val (.int 0), .val (.int 3), .val (.ref b841), .val (.int 0), .unset] [(.int 3), (.int 0), (.ref tx)])) rfl (by rw [hml]; rfl) (argsL := [(.ref tx), (.int 0), (.int 3)]) (rest := []) (lenOf pd_14 rfl) rfl (by show 2 * 0 + _ ≤ _; exact Nat.le_of_eq rfl) (hb hby d7_23) (fun _ _ => ⟨rfl, rfl, (by decide : 1 + 1 ≤ _), (by decide : 3 + 6 ≤ _)⟩)
    dsimp only [Pt.U, Pt.locs, Pt.cells, Pt.slots] at X849 l849 y849 z849 st849 hQ849
    obtain rfl : k849 = 2 := y849
    obtain rfl : n849 = 9 := z849
    obtain ⟨bb849, kk849, rfl, N849q, K849, hs849, hg849, Ab849⟩ := hQ849
    have N849 : Fr n0 L849 := by rw [l849]; exact Fr.app N844 N849q
    have lt_tx_bb849 : tx < bb849 := Nat.lt_of_lt_of_le f852.lt hs849
    have sz_bb849 : h0.size ≤ bb849 := Nat.le_trans f851 hs849
    have G854 : Go p e below A0 (T849.setTop (mkF m 26 #[.val (.ref tx), .val (.int 0), .val (.int 3), .val (.ref b841), .val (.int 0), .unset] [(.ref bb849)])) := fun tq kq => G848 tq (st849 _ kq)
    have G855 : Go p e below A0 (T849.setTop (mkF m 32 #[.val (.ref tx), .val (.int 0), .val (.int 3), .val (.ref b841), .val (.int 0), .val (.ref bb849)] [(.int 0), (.ref bb849)])) := fun tq kq => G854 tq (by
      refine XS.astore X849.here hx rfl (hb hby d7_26) rfl rfl (l' := #[.val (.ref tx), .val (.int 0), .val (.int 3), .val (.ref b841), .val (.int 0), .val (.ref bb849)]) rfl ?_
      refine XS.aload X849.here hx rfl (hb hby d7_28) rfl rfl ?_
      refine XS.iload X849.here hx rfl (hb hby d7_30) rfl ?_
      exact kq)
    have f857 := (Nat.le_trans f850 K849.1)
    have f858 := (f853.keep K849 all0)
    obtain ⟨_, _, ⟨T856, L856, k856, n856⟩, -, X856, ⟨Lc856, hQ856, l856, y856, z856⟩, st856⟩ := Jvm.LawKit.callS X849 hx (y := (⟨"java/lang/StringUTF16", "getChar", "([BI)C"⟩ : MethodName)) hown (mvT hZ (wd hw 118 rfl)) (mvT hZ (wd hw 119 rfl)) (mvT hZ (wd hw 40 rfl)) (mvT hZ (wd hw 120 rfl)) (by decide) (backOf (W := 0) (rmGC l Z a0 hw [] bb849 kk849 (own_cf u0 u1 u2) (0 : Int32) (3 : Int32) (6 : Int32) cs fo T849.heap n0 f857 ((Af.of Ab849).fn (own_cU3 u0 u1 u2)) ⟨by decide, by decide, by decide⟩ ⟨by decide, by decide⟩ ru0 hCS hcs hSF hfo hAD hHI hLO f858) hZ (wd hw 120 rfl) (wd hw 40 rfl) (by decide) (by decide)) (g := (mkF m 32 #[.val (.ref tx), .val (.int 0), .val (.int 3), .val (.ref b841), .val (.int 0), .val (.ref bb849)] [(.int 0), (.ref bb849)])) rfl (by rw [hml]; rfl) (argsL := [(.ref bb849), (.int 0)]) (rest := []) (lenOf pd_4 rfl) rfl (by show 2 * 0 + _ ≤ _; exact Nat.le_of_eq rfl) (hb hby d7_32) (fun _ _ => ⟨rfl, rfl, (by decide : 2 + 0 ≤ _), (by decide : 9 + 0 ≤ _)⟩)
    dsimp only [Pt.U, Pt.locs, Pt.cells, Pt.slots] at X856 l856 y856 z856 st856 hQ856
    obtain rfl : k856 = 2 := y856
    obtain rfl : n856 = 9 := z856
    obtain ⟨rfl, N856q, e856⟩ := hQ856
    have N856 : Fr n0 L856 := by rw [l856]; exact Fr.app N849 N856q
    have G859 : Go p e below A0 (T856.setTop (mkF m 35 #[.val (.ref tx), .val (.int 0), .val (.int 3), .val (.ref b841), .val (.int 0), .val (.ref bb849)] [(.int u0)])) := fun tq kq => G855 tq (st856 _ kq)
    have G860 : Go p e below A0 (T856.setTop (mkF m 56 #[.val (.ref tx), .val (.int 0), .val (.int 3), .val (.ref b841), .val (.int 0), .val (.ref bb849)] [(.ref bb849)])) := fun tq kq => G859 tq (by
      refine XS.sipush X856.here hx rfl (hb hby d7_35) ?_
      refine XS.icmpYes X856.here hx rfl (pc0 := 38) (pc' := 54) rfl (hb hby d7_38) rfl (tlt hc839).2.2.1 (by decide) (by decide) ?_
      refine XS.aload X856.here hx rfl (hb hby d7_54) rfl rfl ?_
      exact kq)
    obtain ⟨fs, hr, hrun, hended, hW, hsame⟩ := X856.leave (v := some (.ref bb849)) (fun h => by rw [Bd.returns] at h; cases h)
    refine ⟨_, _, (by rw [← hA0]; exact G860 _ (retOut X856 hx (t := (.array .byte)) Bd.returns rfl (Or.inr (Or.inr (Or.inr (Or.inr ⟨rfl, rfl, rfl⟩)))) (hb hby d7_56) hr)), hrun, hended, _, _, rfl, ?_, ⟨_, rfl⟩, hW, hsame.mono (by decide) (by decide)⟩
    show Qcp3 Z u0 u1 u2 h0 n0 _ T856.heap _
    rw [e856]
    exact ⟨bb849, kk849, rfl, N856, ((((Keep.refl h0 []).ext E841).trans K844 (allS (P := fun x => x ∈ [] ∨ h0.size ≤ x) (Or.inr sz_b841) all0)).trans K849 all0), sz_bb849, hg849, Or.inr Ab849⟩
  · by_cases hc861 : (255 : Int32) < u1
    · have G862 : Go p e below A0 (s₁.setTop (mkF m 1 #[.val (.ref tx), .val (.int 0), .val (.int 3), .unset, .unset, .unset] [(.int 3)])) := fun tq kq => G0 tq (by
        refine XS.iloadN X0.here hx rfl (hb hby d7_0) rfl ?_
        exact kq)
      obtain ⟨T863, h863, k863, X863, e863, E863, A863, st863⟩ := newP X0 hx hZ (wd hw 21 rfl) e0 (g := (mkF m 1 #[.val (.ref tx), .val (.int 0), .val (.int 3), .unset, .unset, .unset] [(.int 3)])) rfl (hb hby d7_1) rfl (by decide) (cap := 3) (by decide) (by decide) (by decide) (by decide)
      obtain ⟨b863, g863⟩ : ∃ z, z = h0.size := ⟨_, rfl⟩
      rw [← g863] at A863 st863
      have sz_b863 : h0.size ≤ b863 := Nat.le_trans (Nat.le_refl h0.size) (Nat.le_of_eq g863.symm)
      have g_b863 : n0 ≤ b863 := Nat.le_trans Z0 (Nat.le_of_eq g863.symm)
      have lt_tx_b863 : tx < b863 := Nat.lt_of_lt_of_le At.lt (Nat.le_of_eq g863.symm)
      have V863 : Arv Z h863 b863 k863 .byte (3 : Int32) [(.int 0), (.int 0), (.int 0)] (.int 0) := (Arv.new A863 (by decide)).pad (pad_rep [] (.int 0) 3)
      have G864 : Go p e below A0 (T863.setTop (mkF m 3 #[.val (.ref tx), .val (.int 0), .val (.int 3), .unset, .unset, .unset] [(.ref b863)])) := fun tq kq => G862 tq (st863 _ kq)
      have G865 : Go p e below A0 (T863.setTop (mkF m 9 #[.val (.ref tx), .val (.int 0), .val (.int 3), .val (.ref b863), .unset, .unset] [(.int 3), (.int 0), (.ref b863), (.int 0), (.ref tx)])) := fun tq kq => G864 tq (by
        refine XS.astoreN X863.here hx rfl (hb hby d7_3) rfl rfl (l' := #[.val (.ref tx), .val (.int 0), .val (.int 3), .val (.ref b863), .unset, .unset]) rfl ?_
        refine XS.aloadN X863.here hx rfl (hb hby d7_4) rfl rfl ?_
        refine XS.iloadN X863.here hx rfl (hb hby d7_5) rfl ?_
        refine XS.aloadN X863.here hx rfl (hb hby d7_6) rfl rfl ?_
        refine XS.iconst X863.here hx rfl (hb hby d7_7) ?_
        refine XS.iloadN X863.here hx rfl (hb hby d7_8) rfl ?_
        exact kq)
      have f867 := (Nat.le_trans Z0 E863.1)
      have f868 := (At.ext E863)
      obtain ⟨_, _, ⟨T866, L866, k866, n866⟩, -, X866, ⟨Lc866, hQ866, l866, y866, z866⟩, st866⟩ := Jvm.LawKit.callS X863 hx (y := (⟨"java/lang/StringUTF16", "compress", "([CI[BII)I"⟩ : MethodName)) hown (mvT hZ (wd hw 42 rfl)) (mvT hZ (wd hw 43 rfl)) (mvT hZ (wd hw 40 rfl)) (mvT hZ (wd hw 44 rfl)) (by decide) (backOf (W := 0) (rmK31 l Z a0 hw [] tx b863 kt k863 u0 u1 u2 h863 n0 f867 f868 V863 g_b863 (Nat.ne_of_lt lt_tx_b863) ru0 ru1 ru2 hc839 hc861) hZ (wd hw 44 rfl) (wd hw 40 rfl) (by decide) (by decide)) (g := (mkF m 9 #[.val (.ref tx), .val (.int 0), .val (.int 3), .val (.ref b863), .unset, .unset] [(.int 3), (.int 0), (.ref b863), (.int 0), (.ref tx)])) rfl (by rw [hml]; rfl) (argsL := [(.ref tx), (.int 0), (.ref b863), (.int 0), (.int 3)]) (rest := []) (lenOf pd_13 rfl) rfl (by show 2 * 0 + _ ≤ _; exact Nat.le_of_eq rfl) (hb hby d7_9) (fun _ _ => ⟨rfl, e863, (by decide : 1 + 0 ≤ _), (by decide : 3 + 0 ≤ _)⟩)
      dsimp only [Pt.U, Pt.locs, Pt.cells, Pt.slots] at X866 l866 y866 z866 st866 hQ866
      obtain rfl : k866 = 1 := y866
      obtain rfl : n866 = 3 := z866
      obtain ⟨rfl, N866q, K866⟩ := hQ866
      have N866 : Fr n0 L866 := by rw [l866]; exact Fr.app N0 N866q
      have G869 : Go p e below A0 (T866.setTop (mkF m 12 #[.val (.ref tx), .val (.int 0), .val (.int 3), .val (.ref b863), .unset, .unset] [(.int 1)])) := fun tq kq => G865 tq (st866 _ kq)
      have G870 : Go p e below A0 (T866.setTop (mkF m 23 #[.val (.ref tx), .val (.int 0), .val (.int 3), .val (.ref b863), .val (.int 1), .unset] [(.int 3), (.int 0), (.ref tx)])) := fun tq kq => G869 tq (by
        refine XS.istore X866.here hx rfl (hb hby d7_12) rfl (l' := #[.val (.ref tx), .val (.int 0), .val (.int 3), .val (.ref b863), .val (.int 1), .unset]) rfl ?_
        refine XS.iload X866.here hx rfl (hb hby d7_14) rfl ?_
        refine XS.iloadN X866.here hx rfl (hb hby d7_16) rfl ?_
        refine XS.icmpNo X866.here hx rfl (hb hby d7_17) rfl (by decide) ?_
        refine XS.aloadN X866.here hx rfl (hb hby d7_20) rfl rfl ?_
        refine XS.iloadN X866.here hx rfl (hb hby d7_21) rfl ?_
        refine XS.iloadN X866.here hx rfl (hb hby d7_22) rfl ?_
        exact kq)
      have f872 := (Nat.le_trans f867 K866.1)
      have f873 := (Nat.le_trans (Nat.le_trans (Nat.le_refl h0.size) E863.1) K866.1)
      have f874 := (f868.keep K866 (ninS (Nat.ne_of_lt lt_tx_b863) nin0))
      have f875 := ((hold.ext E863).keep K866 (allS g_b863 all0))
      obtain ⟨_, _, ⟨T871, L871, k871, n871⟩, -, X871, ⟨Lc871, hQ871, l871, y871, z871⟩, st871⟩ := Jvm.LawKit.callS X866 hx (y := (⟨"java/lang/StringUTF16", "toBytes", "([CII)[B"⟩ : MethodName)) hown (mvT hZ (wd hw 102 rfl)) (mvT hZ (wd hw 103 rfl)) (mvT hZ (wd hw 40 rfl)) (mvT hZ (wd hw 104 rfl)) (by decide) (backOf (W := 0) (rmTB3 l Z a0 hw [] tx kt u0 u1 u2 cs fo T866.heap n0 f872 f874 ru0 ru1 ru2 hCS hcs hSF hfo hAD hHI hLO f875) hZ (wd hw 104 rfl) (wd hw 40 rfl) (by decide) (by decide)) (g := (mkF m 23 #[.val (.ref tx), .val (.int 0), .val (.int 3), .val (.ref b863), .val (.int 1), .unset] [(.int 3), (.int 0), (.ref tx)])) rfl (by rw [hml]; rfl) (argsL := [(.ref tx), (.int 0), (.int 3)]) (rest := []) (lenOf pd_14 rfl) rfl (by show 2 * 0 + _ ≤ _; exact Nat.le_of_eq rfl) (hb hby d7_23) (fun _ _ => ⟨rfl, rfl, (by decide : 1 + 1 ≤ _), (by decide : 3 + 6 ≤ _)⟩)
      dsimp only [Pt.U, Pt.locs, Pt.cells, Pt.slots] at X871 l871 y871 z871 st871 hQ871
      obtain rfl : k871 = 2 := y871
      obtain rfl : n871 = 9 := z871
      obtain ⟨bb871, kk871, rfl, N871q, K871, hs871, hg871, Ab871⟩ := hQ871
      have N871 : Fr n0 L871 := by rw [l871]; exact Fr.app N866 N871q
      have lt_tx_bb871 : tx < bb871 := Nat.lt_of_lt_of_le f874.lt hs871
      have sz_bb871 : h0.size ≤ bb871 := Nat.le_trans f873 hs871
      have G876 : Go p e below A0 (T871.setTop (mkF m 26 #[.val (.ref tx), .val (.int 0), .val (.int 3), .val (.ref b863), .val (.int 1), .unset] [(.ref bb871)])) := fun tq kq => G870 tq (st871 _ kq)
      have G877 : Go p e below A0 (T871.setTop (mkF m 32 #[.val (.ref tx), .val (.int 0), .val (.int 3), .val (.ref b863), .val (.int 1), .val (.ref bb871)] [(.int 1), (.ref bb871)])) := fun tq kq => G876 tq (by
        refine XS.astore X871.here hx rfl (hb hby d7_26) rfl rfl (l' := #[.val (.ref tx), .val (.int 0), .val (.int 3), .val (.ref b863), .val (.int 1), .val (.ref bb871)]) rfl ?_
        refine XS.aload X871.here hx rfl (hb hby d7_28) rfl rfl ?_
        refine XS.iload X871.here hx rfl (hb hby d7_30) rfl ?_
        exact kq)
      have f879 := (Nat.le_trans f872 K871.1)
      have f880 := (f875.keep K871 all0)
      obtain ⟨_, _, ⟨T878, L878, k878, n878⟩, -, X878, ⟨Lc878, hQ878, l878, y878, z878⟩, st878⟩ := Jvm.LawKit.callS X871 hx (y := (⟨"java/lang/StringUTF16", "getChar", "([BI)C"⟩ : MethodName)) hown (mvT hZ (wd hw 118 rfl)) (mvT hZ (wd hw 119 rfl)) (mvT hZ (wd hw 40 rfl)) (mvT hZ (wd hw 120 rfl)) (by decide) (backOf (W := 0) (rmGC l Z a0 hw [] bb871 kk871 (own_cf u0 u1 u2) (1 : Int32) (3 : Int32) (6 : Int32) cs fo T871.heap n0 f879 ((Af.of Ab871).fn (own_cU3 u0 u1 u2)) ⟨by decide, by decide, by decide⟩ ⟨by decide, by decide⟩ ru1 hCS hcs hSF hfo hAD hHI hLO f880) hZ (wd hw 120 rfl) (wd hw 40 rfl) (by decide) (by decide)) (g := (mkF m 32 #[.val (.ref tx), .val (.int 0), .val (.int 3), .val (.ref b863), .val (.int 1), .val (.ref bb871)] [(.int 1), (.ref bb871)])) rfl (by rw [hml]; rfl) (argsL := [(.ref bb871), (.int 1)]) (rest := []) (lenOf pd_4 rfl) rfl (by show 2 * 0 + _ ≤ _; exact Nat.le_of_eq rfl) (hb hby d7_32) (fun _ _ => ⟨rfl, rfl, (by decide : 2 + 0 ≤ _), (by decide : 9 + 0 ≤ _)⟩)
      dsimp only [Pt.U, Pt.locs, Pt.cells, Pt.slots] at X878 l878 y878 z878 st878 hQ878
      obtain rfl : k878 = 2 := y878
      obtain rfl : n878 = 9 := z878
      obtain ⟨rfl, N878q, e878⟩ := hQ878
      have N878 : Fr n0 L878 := by rw [l878]; exact Fr.app N871 N878q
      have G881 : Go p e below A0 (T878.setTop (mkF m 35 #[.val (.ref tx), .val (.int 0), .val (.int 3), .val (.ref b863), .val (.int 1), .val (.ref bb871)] [(.int u1)])) := fun tq kq => G877 tq (st878 _ kq)
      have G882 : Go p e below A0 (T878.setTop (mkF m 56 #[.val (.ref tx), .val (.int 0), .val (.int 3), .val (.ref b863), .val (.int 1), .val (.ref bb871)] [(.ref bb871)])) := fun tq kq => G881 tq (by
        refine XS.sipush X878.here hx rfl (hb hby d7_35) ?_
        refine XS.icmpYes X878.here hx rfl (pc0 := 38) (pc' := 54) rfl (hb hby d7_38) rfl (tlt hc861).2.2.1 (by decide) (by decide) ?_
        refine XS.aload X878.here hx rfl (hb hby d7_54) rfl rfl ?_
        exact kq)
      obtain ⟨fs, hr, hrun, hended, hW, hsame⟩ := X878.leave (v := some (.ref bb871)) (fun h => by rw [Bd.returns] at h; cases h)
      refine ⟨_, _, (by rw [← hA0]; exact G882 _ (retOut X878 hx (t := (.array .byte)) Bd.returns rfl (Or.inr (Or.inr (Or.inr (Or.inr ⟨rfl, rfl, rfl⟩)))) (hb hby d7_56) hr)), hrun, hended, _, _, rfl, ?_, ⟨_, rfl⟩, hW, hsame.mono (by decide) (by decide)⟩
      show Qcp3 Z u0 u1 u2 h0 n0 _ T878.heap _
      rw [e878]
      exact ⟨bb871, kk871, rfl, N878, ((((Keep.refl h0 []).ext E863).trans K866 (allS (P := fun x => x ∈ [] ∨ h0.size ≤ x) (Or.inr sz_b863) all0)).trans K871 all0), sz_bb871, hg871, Or.inr Ab871⟩
    · by_cases hc883 : (255 : Int32) < u2
      · have G884 : Go p e below A0 (s₁.setTop (mkF m 1 #[.val (.ref tx), .val (.int 0), .val (.int 3), .unset, .unset, .unset] [(.int 3)])) := fun tq kq => G0 tq (by
          refine XS.iloadN X0.here hx rfl (hb hby d7_0) rfl ?_
          exact kq)
        obtain ⟨T885, h885, k885, X885, e885, E885, A885, st885⟩ := newP X0 hx hZ (wd hw 21 rfl) e0 (g := (mkF m 1 #[.val (.ref tx), .val (.int 0), .val (.int 3), .unset, .unset, .unset] [(.int 3)])) rfl (hb hby d7_1) rfl (by decide) (cap := 3) (by decide) (by decide) (by decide) (by decide)
        obtain ⟨b885, g885⟩ : ∃ z, z = h0.size := ⟨_, rfl⟩
        rw [← g885] at A885 st885
        have sz_b885 : h0.size ≤ b885 := Nat.le_trans (Nat.le_refl h0.size) (Nat.le_of_eq g885.symm)
        have g_b885 : n0 ≤ b885 := Nat.le_trans Z0 (Nat.le_of_eq g885.symm)
        have lt_tx_b885 : tx < b885 := Nat.lt_of_lt_of_le At.lt (Nat.le_of_eq g885.symm)
        have V885 : Arv Z h885 b885 k885 .byte (3 : Int32) [(.int 0), (.int 0), (.int 0)] (.int 0) := (Arv.new A885 (by decide)).pad (pad_rep [] (.int 0) 3)
        have G886 : Go p e below A0 (T885.setTop (mkF m 3 #[.val (.ref tx), .val (.int 0), .val (.int 3), .unset, .unset, .unset] [(.ref b885)])) := fun tq kq => G884 tq (st885 _ kq)
        have G887 : Go p e below A0 (T885.setTop (mkF m 9 #[.val (.ref tx), .val (.int 0), .val (.int 3), .val (.ref b885), .unset, .unset] [(.int 3), (.int 0), (.ref b885), (.int 0), (.ref tx)])) := fun tq kq => G886 tq (by
          refine XS.astoreN X885.here hx rfl (hb hby d7_3) rfl rfl (l' := #[.val (.ref tx), .val (.int 0), .val (.int 3), .val (.ref b885), .unset, .unset]) rfl ?_
          refine XS.aloadN X885.here hx rfl (hb hby d7_4) rfl rfl ?_
          refine XS.iloadN X885.here hx rfl (hb hby d7_5) rfl ?_
          refine XS.aloadN X885.here hx rfl (hb hby d7_6) rfl rfl ?_
          refine XS.iconst X885.here hx rfl (hb hby d7_7) ?_
          refine XS.iloadN X885.here hx rfl (hb hby d7_8) rfl ?_
          exact kq)
        have f889 := (Nat.le_trans Z0 E885.1)
        have f890 := (At.ext E885)
        obtain ⟨_, _, ⟨T888, L888, k888, n888⟩, -, X888, ⟨Lc888, hQ888, l888, y888, z888⟩, st888⟩ := Jvm.LawKit.callS X885 hx (y := (⟨"java/lang/StringUTF16", "compress", "([CI[BII)I"⟩ : MethodName)) hown (mvT hZ (wd hw 42 rfl)) (mvT hZ (wd hw 43 rfl)) (mvT hZ (wd hw 40 rfl)) (mvT hZ (wd hw 44 rfl)) (by decide) (backOf (W := 0) (rmK32 l Z a0 hw [] tx b885 kt k885 u0 u1 u2 h885 n0 f889 f890 V885 g_b885 (Nat.ne_of_lt lt_tx_b885) ru0 ru1 ru2 hc839 hc861 hc883) hZ (wd hw 44 rfl) (wd hw 40 rfl) (by decide) (by decide)) (g := (mkF m 9 #[.val (.ref tx), .val (.int 0), .val (.int 3), .val (.ref b885), .unset, .unset] [(.int 3), (.int 0), (.ref b885), (.int 0), (.ref tx)])) rfl (by rw [hml]; rfl) (argsL := [(.ref tx), (.int 0), (.ref b885), (.int 0), (.int 3)]) (rest := []) (lenOf pd_13 rfl) rfl (by show 2 * 0 + _ ≤ _; exact Nat.le_of_eq rfl) (hb hby d7_9) (fun _ _ => ⟨rfl, e885, (by decide : 1 + 0 ≤ _), (by decide : 3 + 0 ≤ _)⟩)
        dsimp only [Pt.U, Pt.locs, Pt.cells, Pt.slots] at X888 l888 y888 z888 st888 hQ888
        obtain rfl : k888 = 1 := y888
        obtain rfl : n888 = 3 := z888
        obtain ⟨rfl, N888q, K888⟩ := hQ888
        have N888 : Fr n0 L888 := by rw [l888]; exact Fr.app N0 N888q
        have G891 : Go p e below A0 (T888.setTop (mkF m 12 #[.val (.ref tx), .val (.int 0), .val (.int 3), .val (.ref b885), .unset, .unset] [(.int 2)])) := fun tq kq => G887 tq (st888 _ kq)
        have G892 : Go p e below A0 (T888.setTop (mkF m 23 #[.val (.ref tx), .val (.int 0), .val (.int 3), .val (.ref b885), .val (.int 2), .unset] [(.int 3), (.int 0), (.ref tx)])) := fun tq kq => G891 tq (by
          refine XS.istore X888.here hx rfl (hb hby d7_12) rfl (l' := #[.val (.ref tx), .val (.int 0), .val (.int 3), .val (.ref b885), .val (.int 2), .unset]) rfl ?_
          refine XS.iload X888.here hx rfl (hb hby d7_14) rfl ?_
          refine XS.iloadN X888.here hx rfl (hb hby d7_16) rfl ?_
          refine XS.icmpNo X888.here hx rfl (hb hby d7_17) rfl (by decide) ?_
          refine XS.aloadN X888.here hx rfl (hb hby d7_20) rfl rfl ?_
          refine XS.iloadN X888.here hx rfl (hb hby d7_21) rfl ?_
          refine XS.iloadN X888.here hx rfl (hb hby d7_22) rfl ?_
          exact kq)
        have f894 := (Nat.le_trans f889 K888.1)
        have f895 := (Nat.le_trans (Nat.le_trans (Nat.le_refl h0.size) E885.1) K888.1)
        have f896 := (f890.keep K888 (ninS (Nat.ne_of_lt lt_tx_b885) nin0))
        have f897 := ((hold.ext E885).keep K888 (allS g_b885 all0))
        obtain ⟨_, _, ⟨T893, L893, k893, n893⟩, -, X893, ⟨Lc893, hQ893, l893, y893, z893⟩, st893⟩ := Jvm.LawKit.callS X888 hx (y := (⟨"java/lang/StringUTF16", "toBytes", "([CII)[B"⟩ : MethodName)) hown (mvT hZ (wd hw 102 rfl)) (mvT hZ (wd hw 103 rfl)) (mvT hZ (wd hw 40 rfl)) (mvT hZ (wd hw 104 rfl)) (by decide) (backOf (W := 0) (rmTB3 l Z a0 hw [] tx kt u0 u1 u2 cs fo T888.heap n0 f894 f896 ru0 ru1 ru2 hCS hcs hSF hfo hAD hHI hLO f897) hZ (wd hw 104 rfl) (wd hw 40 rfl) (by decide) (by decide)) (g := (mkF m 23 #[.val (.ref tx), .val (.int 0), .val (.int 3), .val (.ref b885), .val (.int 2), .unset] [(.int 3), (.int 0), (.ref tx)])) rfl (by rw [hml]; rfl) (argsL := [(.ref tx), (.int 0), (.int 3)]) (rest := []) (lenOf pd_14 rfl) rfl (by show 2 * 0 + _ ≤ _; exact Nat.le_of_eq rfl) (hb hby d7_23) (fun _ _ => ⟨rfl, rfl, (by decide : 1 + 1 ≤ _), (by decide : 3 + 6 ≤ _)⟩)
        dsimp only [Pt.U, Pt.locs, Pt.cells, Pt.slots] at X893 l893 y893 z893 st893 hQ893
        obtain rfl : k893 = 2 := y893
        obtain rfl : n893 = 9 := z893
        obtain ⟨bb893, kk893, rfl, N893q, K893, hs893, hg893, Ab893⟩ := hQ893
        have N893 : Fr n0 L893 := by rw [l893]; exact Fr.app N888 N893q
        have lt_tx_bb893 : tx < bb893 := Nat.lt_of_lt_of_le f896.lt hs893
        have sz_bb893 : h0.size ≤ bb893 := Nat.le_trans f895 hs893
        have G898 : Go p e below A0 (T893.setTop (mkF m 26 #[.val (.ref tx), .val (.int 0), .val (.int 3), .val (.ref b885), .val (.int 2), .unset] [(.ref bb893)])) := fun tq kq => G892 tq (st893 _ kq)
        have G899 : Go p e below A0 (T893.setTop (mkF m 32 #[.val (.ref tx), .val (.int 0), .val (.int 3), .val (.ref b885), .val (.int 2), .val (.ref bb893)] [(.int 2), (.ref bb893)])) := fun tq kq => G898 tq (by
          refine XS.astore X893.here hx rfl (hb hby d7_26) rfl rfl (l' := #[.val (.ref tx), .val (.int 0), .val (.int 3), .val (.ref b885), .val (.int 2), .val (.ref bb893)]) rfl ?_
          refine XS.aload X893.here hx rfl (hb hby d7_28) rfl rfl ?_
          refine XS.iload X893.here hx rfl (hb hby d7_30) rfl ?_
          exact kq)
        have f901 := (Nat.le_trans f894 K893.1)
        have f902 := (f897.keep K893 all0)
        obtain ⟨_, _, ⟨T900, L900, k900, n900⟩, -, X900, ⟨Lc900, hQ900, l900, y900, z900⟩, st900⟩ := Jvm.LawKit.callS X893 hx (y := (⟨"java/lang/StringUTF16", "getChar", "([BI)C"⟩ : MethodName)) hown (mvT hZ (wd hw 118 rfl)) (mvT hZ (wd hw 119 rfl)) (mvT hZ (wd hw 40 rfl)) (mvT hZ (wd hw 120 rfl)) (by decide) (backOf (W := 0) (rmGC l Z a0 hw [] bb893 kk893 (own_cf u0 u1 u2) (2 : Int32) (3 : Int32) (6 : Int32) cs fo T893.heap n0 f901 ((Af.of Ab893).fn (own_cU3 u0 u1 u2)) ⟨by decide, by decide, by decide⟩ ⟨by decide, by decide⟩ ru2 hCS hcs hSF hfo hAD hHI hLO f902) hZ (wd hw 120 rfl) (wd hw 40 rfl) (by decide) (by decide)) (g := (mkF m 32 #[.val (.ref tx), .val (.int 0), .val (.int 3), .val (.ref b885), .val (.int 2), .val (.ref bb893)] [(.int 2), (.ref bb893)])) rfl (by rw [hml]; rfl) (argsL := [(.ref bb893), (.int 2)]) (rest := []) (lenOf pd_4 rfl) rfl (by show 2 * 0 + _ ≤ _; exact Nat.le_of_eq rfl) (hb hby d7_32) (fun _ _ => ⟨rfl, rfl, (by decide : 2 + 0 ≤ _), (by decide : 9 + 0 ≤ _)⟩)
        dsimp only [Pt.U, Pt.locs, Pt.cells, Pt.slots] at X900 l900 y900 z900 st900 hQ900
        obtain rfl : k900 = 2 := y900
        obtain rfl : n900 = 9 := z900
        obtain ⟨rfl, N900q, e900⟩ := hQ900
        have N900 : Fr n0 L900 := by rw [l900]; exact Fr.app N893 N900q
        have G903 : Go p e below A0 (T900.setTop (mkF m 35 #[.val (.ref tx), .val (.int 0), .val (.int 3), .val (.ref b885), .val (.int 2), .val (.ref bb893)] [(.int u2)])) := fun tq kq => G899 tq (st900 _ kq)
        have G904 : Go p e below A0 (T900.setTop (mkF m 56 #[.val (.ref tx), .val (.int 0), .val (.int 3), .val (.ref b885), .val (.int 2), .val (.ref bb893)] [(.ref bb893)])) := fun tq kq => G903 tq (by
          refine XS.sipush X900.here hx rfl (hb hby d7_35) ?_
          refine XS.icmpYes X900.here hx rfl (pc0 := 38) (pc' := 54) rfl (hb hby d7_38) rfl (tlt hc883).2.2.1 (by decide) (by decide) ?_
          refine XS.aload X900.here hx rfl (hb hby d7_54) rfl rfl ?_
          exact kq)
        obtain ⟨fs, hr, hrun, hended, hW, hsame⟩ := X900.leave (v := some (.ref bb893)) (fun h => by rw [Bd.returns] at h; cases h)
        refine ⟨_, _, (by rw [← hA0]; exact G904 _ (retOut X900 hx (t := (.array .byte)) Bd.returns rfl (Or.inr (Or.inr (Or.inr (Or.inr ⟨rfl, rfl, rfl⟩)))) (hb hby d7_56) hr)), hrun, hended, _, _, rfl, ?_, ⟨_, rfl⟩, hW, hsame.mono (by decide) (by decide)⟩
        show Qcp3 Z u0 u1 u2 h0 n0 _ T900.heap _
        rw [e900]
        exact ⟨bb893, kk893, rfl, N900, ((((Keep.refl h0 []).ext E885).trans K888 (allS (P := fun x => x ∈ [] ∨ h0.size ≤ x) (Or.inr sz_b885) all0)).trans K893 all0), sz_bb893, hg893, Or.inr Ab893⟩
      · have G905 : Go p e below A0 (s₁.setTop (mkF m 1 #[.val (.ref tx), .val (.int 0), .val (.int 3), .unset, .unset, .unset] [(.int 3)])) := fun tq kq => G0 tq (by
          refine XS.iloadN X0.here hx rfl (hb hby d7_0) rfl ?_
          exact kq)
        obtain ⟨T906, h906, k906, X906, e906, E906, A906, st906⟩ := newP X0 hx hZ (wd hw 21 rfl) e0 (g := (mkF m 1 #[.val (.ref tx), .val (.int 0), .val (.int 3), .unset, .unset, .unset] [(.int 3)])) rfl (hb hby d7_1) rfl (by decide) (cap := 3) (by decide) (by decide) (by decide) (by decide)
        obtain ⟨b906, g906⟩ : ∃ z, z = h0.size := ⟨_, rfl⟩
        rw [← g906] at A906 st906
        have sz_b906 : h0.size ≤ b906 := Nat.le_trans (Nat.le_refl h0.size) (Nat.le_of_eq g906.symm)
        have g_b906 : n0 ≤ b906 := Nat.le_trans Z0 (Nat.le_of_eq g906.symm)
        have lt_tx_b906 : tx < b906 := Nat.lt_of_lt_of_le At.lt (Nat.le_of_eq g906.symm)
        have V906 : Arv Z h906 b906 k906 .byte (3 : Int32) [(.int 0), (.int 0), (.int 0)] (.int 0) := (Arv.new A906 (by decide)).pad (pad_rep [] (.int 0) 3)
        have G907 : Go p e below A0 (T906.setTop (mkF m 3 #[.val (.ref tx), .val (.int 0), .val (.int 3), .unset, .unset, .unset] [(.ref b906)])) := fun tq kq => G905 tq (st906 _ kq)
        have G908 : Go p e below A0 (T906.setTop (mkF m 9 #[.val (.ref tx), .val (.int 0), .val (.int 3), .val (.ref b906), .unset, .unset] [(.int 3), (.int 0), (.ref b906), (.int 0), (.ref tx)])) := fun tq kq => G907 tq (by
          refine XS.astoreN X906.here hx rfl (hb hby d7_3) rfl rfl (l' := #[.val (.ref tx), .val (.int 0), .val (.int 3), .val (.ref b906), .unset, .unset]) rfl ?_
          refine XS.aloadN X906.here hx rfl (hb hby d7_4) rfl rfl ?_
          refine XS.iloadN X906.here hx rfl (hb hby d7_5) rfl ?_
          refine XS.aloadN X906.here hx rfl (hb hby d7_6) rfl rfl ?_
          refine XS.iconst X906.here hx rfl (hb hby d7_7) ?_
          refine XS.iloadN X906.here hx rfl (hb hby d7_8) rfl ?_
          exact kq)
        have f910 := (Nat.le_trans Z0 E906.1)
        have f911 := (At.ext E906)
        obtain ⟨_, _, ⟨T909, L909, k909, n909⟩, -, X909, ⟨Lc909, hQ909, l909, y909, z909⟩, st909⟩ := Jvm.LawKit.callS X906 hx (y := (⟨"java/lang/StringUTF16", "compress", "([CI[BII)I"⟩ : MethodName)) hown (mvT hZ (wd hw 42 rfl)) (mvT hZ (wd hw 43 rfl)) (mvT hZ (wd hw 40 rfl)) (mvT hZ (wd hw 44 rfl)) (by decide) (backOf (W := 0) (rmK33 l Z a0 hw [] tx b906 kt k906 u0 u1 u2 h906 n0 f910 f911 V906 g_b906 (Nat.ne_of_lt lt_tx_b906) ru0 ru1 ru2 hc839 hc861 hc883) hZ (wd hw 44 rfl) (wd hw 40 rfl) (by decide) (by decide)) (g := (mkF m 9 #[.val (.ref tx), .val (.int 0), .val (.int 3), .val (.ref b906), .unset, .unset] [(.int 3), (.int 0), (.ref b906), (.int 0), (.ref tx)])) rfl (by rw [hml]; rfl) (argsL := [(.ref tx), (.int 0), (.ref b906), (.int 0), (.int 3)]) (rest := []) (lenOf pd_13 rfl) rfl (by show 2 * 0 + _ ≤ _; exact Nat.le_of_eq rfl) (hb hby d7_9) (fun _ _ => ⟨rfl, e906, (by decide : 1 + 0 ≤ _), (by decide : 3 + 0 ≤ _)⟩)
        dsimp only [Pt.U, Pt.locs, Pt.cells, Pt.slots] at X909 l909 y909 z909 st909 hQ909
        obtain rfl : k909 = 1 := y909
        obtain rfl : n909 = 3 := z909
        obtain ⟨rfl, N909q, K909, Ab909⟩ := hQ909
        have N909 : Fr n0 L909 := by rw [l909]; exact Fr.app N0 N909q
        have G912 : Go p e below A0 (T909.setTop (mkF m 12 #[.val (.ref tx), .val (.int 0), .val (.int 3), .val (.ref b906), .unset, .unset] [(.int 3)])) := fun tq kq => G908 tq (st909 _ kq)
        have G913 : Go p e below A0 (T909.setTop (mkF m 58 #[.val (.ref tx), .val (.int 0), .val (.int 3), .val (.ref b906), .val (.int 3), .unset] [(.ref b906)])) := fun tq kq => G912 tq (by
          refine XS.istore X909.here hx rfl (hb hby d7_12) rfl (l' := #[.val (.ref tx), .val (.int 0), .val (.int 3), .val (.ref b906), .val (.int 3), .unset]) rfl ?_
          refine XS.iload X909.here hx rfl (hb hby d7_14) rfl ?_
          refine XS.iloadN X909.here hx rfl (hb hby d7_16) rfl ?_
          refine XS.icmpYes X909.here hx rfl (pc0 := 17) (pc' := 57) rfl (hb hby d7_17) rfl (by decide) (by decide) (by decide) ?_
          refine XS.aloadN X909.here hx rfl (hb hby d7_57) rfl rfl ?_
          exact kq)
        obtain ⟨fs, hr, hrun, hended, hW, hsame⟩ := X909.leave (v := some (.ref b906)) (fun h => by rw [Bd.returns] at h; cases h)
        refine ⟨_, _, (by rw [← hA0]; exact G913 _ (retOut X909 hx (t := (.array .byte)) Bd.returns rfl (Or.inr (Or.inr (Or.inr (Or.inr ⟨rfl, rfl, rfl⟩)))) (hb hby d7_58) hr)), hrun, hended, _, _, rfl, ?_, ⟨_, rfl⟩, hW, hsame.mono (by decide) (by decide)⟩
        show Qcp3 Z u0 u1 u2 h0 n0 _ T909.heap _
        exact ⟨b906, k906, rfl, N909, (((Keep.refl h0 []).ext E906).trans K909 (allS (P := fun x => x ∈ [] ∨ h0.size ≤ x) (Or.inr sz_b906) all0)), sz_b906, g_b906, Or.inl ⟨hc839, hc861, hc883, Ab909⟩⟩
set_option maxRecDepth 65536 in
set_option maxHeartbeats 40000000 in
theorem rmCd20 (l : Launch) (Z : State) (a0 : Array Value) (hw : ∀ d ∈ tables_1, d.before a0 Z = true) (ws : List Jvm.Cond) (b : Addr) (kb : ClassId) (vs : List Value) (h0 : Heap) (n0 : Nat) (Z0 : n0 ≤ h0.size) (Ab : Arv Z h0 b kb .byte (2 : Int32) vs (.int 0)) :
    MetFree l (⟨"java/lang/StringUTF16", "coderFromArrayLen", "([BI)B"⟩ : MethodName) (head1 (Jvm.Cond.code (⟨"java/lang/StringUTF16", "coderFromArrayLen", "([BI)B"⟩ : MethodName) jdk_52_method_15_code 2 (some .byte) :: ws) (Rm 0 0 0 0)) (fun aa UU => aa = #[(.ref b), (.int 2)] ∧ Z.Warmed39 UU.vm ∧ UU.heap = h0) (fun _ _ _ _ _ => True) (fun _ UU oo U' => ∃ v L, oo = .returned v ∧ Qr (.int 0) h0 n0 v U'.heap L ∧ FrameEnd UU oo U' L (Rm 0 0 0 0).cells (Rm 0 0 0 0).slots) := by
  refine MetFree.of_bodySF (plainFor_of_name pn_2) hisR ?_
  intro p e s m args below meth c s₁ Bd hml0 hP hK
  obtain ⟨rfl, hZ, hh⟩ := hP
  have hx := Bd.exec
  have hby := Bd.bytes
  have hml : c.maxLocals = 2 := hml0
  have hown : s.vm.findClass "java/lang/StringUTF16" = some m.cls := findClass_of_methodNamed Bd.named
  have hnm := (name_of_methodNamed Bd.named Bd.method).1
  have X0 : Stand p l e (Rm 0 0 0 0) s m #[(.ref b), (.int 2)] below meth c s₁ [] 0 0 := Stand.of_body Bd
  have e0 : s₁.heap = h0 := by rw [← hh, Bd.state]; rfl
  have N0 := Fr.nil n0
  obtain ⟨A0, hA0⟩ : ∃ A, A = s₁.setTop (entryFrame m #[(.ref b), (.int 2)] 2) := ⟨_, rfl⟩
  have G0 : Go p e below A0 (s₁.setTop (mkF m 0 #[.val (.ref b), .val (.int 2)] [])) := fun tq kq => by rw [hA0]; exact castTop (ef_rmCd20 m b (2 : Int32)) kq
  have G914 : Go p e below A0 (s₁.setTop (mkF m 2 #[.val (.ref b), .val (.int 2)] [(.ref b), (.int 2)])) := fun tq kq => G0 tq (by
    refine XS.iloadN X0.here hx rfl (hb hby d9_0) rfl ?_
    refine XS.aloadN X0.here hx rfl (hb hby d9_1) rfl rfl ?_
    exact kq)
  obtain ⟨cl915, Ar915, q915, S915, M915, H915, Gf915⟩ := id Ab
  have G916 : Go p e below A0 (s₁.setTop (mkF m 8 #[.val (.ref b), .val (.int 2)] [(.int 0)])) := fun tq kq => G914 tq (by
    refine X0.arraylength hx (by rw [e0]; exact Ar915.1) (State.isArrayOf_alike hZ.alike Ar915.2.1) (g := (mkF m 2 #[.val (.ref b), .val (.int 2)] [(.ref b), (.int 2)])) rfl rfl (hb hby d9_2) _ ?_
    rw [len_of S915 M915]
    show Steps p.tables e below (s₁.setTop (mkF m 3 #[.val (.ref b), .val (.int 2)] [(.int 2), (.int 2)])) _
    refine XS.isub X0.here hx rfl (hb hby d9_3) rfl ?_
    show Steps p.tables e below (s₁.setTop (mkF m 4 #[.val (.ref b), .val (.int 2)] [(.int ((2 : Int32) - (2 : Int32)))])) _
    rw [show ((2 : Int32) - (2 : Int32)) = (0 : Int32) from (by decide : ((2 : Int32) - (2 : Int32)) = (0 : Int32))]
    show Steps p.tables e below (s₁.setTop (mkF m 4 #[.val (.ref b), .val (.int 2)] [(.int 0)])) _
    refine XS.bipush X0.here hx rfl (hb hby d9_4) ?_
    refine XS.iushr X0.here hx rfl (hb hby d9_6) rfl ?_
    show Steps p.tables e below (s₁.setTop (mkF m 7 #[.val (.ref b), .val (.int 2)] [(.int (((0 : Int32).toUInt32 >>> ((31 : Int32) &&& 31).toUInt32).toInt32))])) _
    rw [show (((0 : Int32).toUInt32 >>> ((31 : Int32) &&& 31).toUInt32).toInt32) = (0 : Int32) from (by decide)]
    show Steps p.tables e below (s₁.setTop (mkF m 7 #[.val (.ref b), .val (.int 2)] [(.int 0)])) _
    refine XS.i2b X0.here hx rfl (hb hby d9_7) rfl ?_
    show Steps p.tables e below (s₁.setTop (mkF m 8 #[.val (.ref b), .val (.int 2)] [(.int (0 : Int32).toInt8.toInt32)])) _
    rw [show (0 : Int32).toInt8.toInt32 = (0 : Int32) from (by decide)]
    show Steps p.tables e below (s₁.setTop (mkF m 8 #[.val (.ref b), .val (.int 2)] [(.int 0)])) _
    exact kq)
  obtain ⟨fs, hr, hrun, hended, hW, hsame⟩ := X0.leave (v := some (.int (nar .byte (0 : Int32)))) (fun h => by rw [Bd.returns] at h; cases h)
  refine ⟨_, _, (by rw [← hA0]; exact G916 _ (retN X0 hx (t := .byte) Bd.returns (by simp) (hb hby d9_8) hr)), hrun, hended, _, _, rfl, ?_, ⟨_, rfl⟩, hW, hsame.mono (by decide) (by decide)⟩
  exact ⟨rfl, N0, e0⟩
set_option maxRecDepth 65536 in
set_option maxHeartbeats 40000000 in
theorem rmCd21 (l : Launch) (Z : State) (a0 : Array Value) (hw : ∀ d ∈ tables_1, d.before a0 Z = true) (ws : List Jvm.Cond) (b : Addr) (kb : ClassId) (vs : List Value) (h0 : Heap) (n0 : Nat) (Z0 : n0 ≤ h0.size) (Ab : Arv Z h0 b kb .byte (4 : Int32) vs (.int 0)) :
    MetFree l (⟨"java/lang/StringUTF16", "coderFromArrayLen", "([BI)B"⟩ : MethodName) (head1 (Jvm.Cond.code (⟨"java/lang/StringUTF16", "coderFromArrayLen", "([BI)B"⟩ : MethodName) jdk_52_method_15_code 2 (some .byte) :: ws) (Rm 0 0 0 0)) (fun aa UU => aa = #[(.ref b), (.int 2)] ∧ Z.Warmed39 UU.vm ∧ UU.heap = h0) (fun _ _ _ _ _ => True) (fun _ UU oo U' => ∃ v L, oo = .returned v ∧ Qr (.int 1) h0 n0 v U'.heap L ∧ FrameEnd UU oo U' L (Rm 0 0 0 0).cells (Rm 0 0 0 0).slots) := by
  refine MetFree.of_bodySF (plainFor_of_name pn_2) hisR ?_
  intro p e s m args below meth c s₁ Bd hml0 hP hK
  obtain ⟨rfl, hZ, hh⟩ := hP
  have hx := Bd.exec
  have hby := Bd.bytes
  have hml : c.maxLocals = 2 := hml0
  have hown : s.vm.findClass "java/lang/StringUTF16" = some m.cls := findClass_of_methodNamed Bd.named
  have hnm := (name_of_methodNamed Bd.named Bd.method).1
  have X0 : Stand p l e (Rm 0 0 0 0) s m #[(.ref b), (.int 2)] below meth c s₁ [] 0 0 := Stand.of_body Bd
  have e0 : s₁.heap = h0 := by rw [← hh, Bd.state]; rfl
  have N0 := Fr.nil n0
  obtain ⟨A0, hA0⟩ : ∃ A, A = s₁.setTop (entryFrame m #[(.ref b), (.int 2)] 2) := ⟨_, rfl⟩
  have G0 : Go p e below A0 (s₁.setTop (mkF m 0 #[.val (.ref b), .val (.int 2)] [])) := fun tq kq => by rw [hA0]; exact castTop (ef_rmCd21 m b (2 : Int32)) kq
  have G917 : Go p e below A0 (s₁.setTop (mkF m 2 #[.val (.ref b), .val (.int 2)] [(.ref b), (.int 2)])) := fun tq kq => G0 tq (by
    refine XS.iloadN X0.here hx rfl (hb hby d9_0) rfl ?_
    refine XS.aloadN X0.here hx rfl (hb hby d9_1) rfl rfl ?_
    exact kq)
  obtain ⟨cl918, Ar918, q918, S918, M918, H918, Gf918⟩ := id Ab
  have G919 : Go p e below A0 (s₁.setTop (mkF m 8 #[.val (.ref b), .val (.int 2)] [(.int 1)])) := fun tq kq => G917 tq (by
    refine X0.arraylength hx (by rw [e0]; exact Ar918.1) (State.isArrayOf_alike hZ.alike Ar918.2.1) (g := (mkF m 2 #[.val (.ref b), .val (.int 2)] [(.ref b), (.int 2)])) rfl rfl (hb hby d9_2) _ ?_
    rw [len_of S918 M918]
    show Steps p.tables e below (s₁.setTop (mkF m 3 #[.val (.ref b), .val (.int 2)] [(.int 4), (.int 2)])) _
    refine XS.isub X0.here hx rfl (hb hby d9_3) rfl ?_
    show Steps p.tables e below (s₁.setTop (mkF m 4 #[.val (.ref b), .val (.int 2)] [(.int ((2 : Int32) - (4 : Int32)))])) _
    rw [show ((2 : Int32) - (4 : Int32)) = (-2 : Int32) from (by decide : ((2 : Int32) - (4 : Int32)) = (-2 : Int32))]
    show Steps p.tables e below (s₁.setTop (mkF m 4 #[.val (.ref b), .val (.int 2)] [(.int (-2 : Int32))])) _
    refine XS.bipush X0.here hx rfl (hb hby d9_4) ?_
    refine XS.iushr X0.here hx rfl (hb hby d9_6) rfl ?_
    show Steps p.tables e below (s₁.setTop (mkF m 7 #[.val (.ref b), .val (.int 2)] [(.int (((-2 : Int32).toUInt32 >>> ((31 : Int32) &&& 31).toUInt32).toInt32))])) _
    rw [show (((-2 : Int32).toUInt32 >>> ((31 : Int32) &&& 31).toUInt32).toInt32) = (1 : Int32) from (by decide)]
    show Steps p.tables e below (s₁.setTop (mkF m 7 #[.val (.ref b), .val (.int 2)] [(.int 1)])) _
    refine XS.i2b X0.here hx rfl (hb hby d9_7) rfl ?_
    show Steps p.tables e below (s₁.setTop (mkF m 8 #[.val (.ref b), .val (.int 2)] [(.int (1 : Int32).toInt8.toInt32)])) _
    rw [show (1 : Int32).toInt8.toInt32 = (1 : Int32) from (by decide)]
    show Steps p.tables e below (s₁.setTop (mkF m 8 #[.val (.ref b), .val (.int 2)] [(.int 1)])) _
    exact kq)
  obtain ⟨fs, hr, hrun, hended, hW, hsame⟩ := X0.leave (v := some (.int (nar .byte (1 : Int32)))) (fun h => by rw [Bd.returns] at h; cases h)
  refine ⟨_, _, (by rw [← hA0]; exact G919 _ (retN X0 hx (t := .byte) Bd.returns (by simp) (hb hby d9_8) hr)), hrun, hended, _, _, rfl, ?_, ⟨_, rfl⟩, hW, hsame.mono (by decide) (by decide)⟩
  exact ⟨rfl, N0, e0⟩
set_option maxRecDepth 65536 in
set_option maxHeartbeats 40000000 in
theorem rmCd30 (l : Launch) (Z : State) (a0 : Array Value) (hw : ∀ d ∈ tables_1, d.before a0 Z = true) (ws : List Jvm.Cond) (b : Addr) (kb : ClassId) (vs : List Value) (h0 : Heap) (n0 : Nat) (Z0 : n0 ≤ h0.size) (Ab : Arv Z h0 b kb .byte (3 : Int32) vs (.int 0)) :
    MetFree l (⟨"java/lang/StringUTF16", "coderFromArrayLen", "([BI)B"⟩ : MethodName) (head1 (Jvm.Cond.code (⟨"java/lang/StringUTF16", "coderFromArrayLen", "([BI)B"⟩ : MethodName) jdk_52_method_15_code 2 (some .byte) :: ws) (Rm 0 0 0 0)) (fun aa UU => aa = #[(.ref b), (.int 3)] ∧ Z.Warmed39 UU.vm ∧ UU.heap = h0) (fun _ _ _ _ _ => True) (fun _ UU oo U' => ∃ v L, oo = .returned v ∧ Qr (.int 0) h0 n0 v U'.heap L ∧ FrameEnd UU oo U' L (Rm 0 0 0 0).cells (Rm 0 0 0 0).slots) := by
  refine MetFree.of_bodySF (plainFor_of_name pn_2) hisR ?_
  intro p e s m args below meth c s₁ Bd hml0 hP hK
  obtain ⟨rfl, hZ, hh⟩ := hP
  have hx := Bd.exec
  have hby := Bd.bytes
  have hml : c.maxLocals = 2 := hml0
  have hown : s.vm.findClass "java/lang/StringUTF16" = some m.cls := findClass_of_methodNamed Bd.named
  have hnm := (name_of_methodNamed Bd.named Bd.method).1
  have X0 : Stand p l e (Rm 0 0 0 0) s m #[(.ref b), (.int 3)] below meth c s₁ [] 0 0 := Stand.of_body Bd
  have e0 : s₁.heap = h0 := by rw [← hh, Bd.state]; rfl
  have N0 := Fr.nil n0
  obtain ⟨A0, hA0⟩ : ∃ A, A = s₁.setTop (entryFrame m #[(.ref b), (.int 3)] 2) := ⟨_, rfl⟩
  have G0 : Go p e below A0 (s₁.setTop (mkF m 0 #[.val (.ref b), .val (.int 3)] [])) := fun tq kq => by rw [hA0]; exact castTop (ef_rmCd30 m b (3 : Int32)) kq
  have G920 : Go p e below A0 (s₁.setTop (mkF m 2 #[.val (.ref b), .val (.int 3)] [(.ref b), (.int 3)])) := fun tq kq => G0 tq (by
    refine XS.iloadN X0.here hx rfl (hb hby d9_0) rfl ?_
    refine XS.aloadN X0.here hx rfl (hb hby d9_1) rfl rfl ?_
    exact kq)
  obtain ⟨cl921, Ar921, q921, S921, M921, H921, Gf921⟩ := id Ab
  have G922 : Go p e below A0 (s₁.setTop (mkF m 8 #[.val (.ref b), .val (.int 3)] [(.int 0)])) := fun tq kq => G920 tq (by
    refine X0.arraylength hx (by rw [e0]; exact Ar921.1) (State.isArrayOf_alike hZ.alike Ar921.2.1) (g := (mkF m 2 #[.val (.ref b), .val (.int 3)] [(.ref b), (.int 3)])) rfl rfl (hb hby d9_2) _ ?_
    rw [len_of S921 M921]
    show Steps p.tables e below (s₁.setTop (mkF m 3 #[.val (.ref b), .val (.int 3)] [(.int 3), (.int 3)])) _
    refine XS.isub X0.here hx rfl (hb hby d9_3) rfl ?_
    show Steps p.tables e below (s₁.setTop (mkF m 4 #[.val (.ref b), .val (.int 3)] [(.int ((3 : Int32) - (3 : Int32)))])) _
    rw [show ((3 : Int32) - (3 : Int32)) = (0 : Int32) from (by decide : ((3 : Int32) - (3 : Int32)) = (0 : Int32))]
    show Steps p.tables e below (s₁.setTop (mkF m 4 #[.val (.ref b), .val (.int 3)] [(.int 0)])) _
    refine XS.bipush X0.here hx rfl (hb hby d9_4) ?_
    refine XS.iushr X0.here hx rfl (hb hby d9_6) rfl ?_
    show Steps p.tables e below (s₁.setTop (mkF m 7 #[.val (.ref b), .val (.int 3)] [(.int (((0 : Int32).toUInt32 >>> ((31 : Int32) &&& 31).toUInt32).toInt32))])) _
    rw [show (((0 : Int32).toUInt32 >>> ((31 : Int32) &&& 31).toUInt32).toInt32) = (0 : Int32) from (by decide)]
    show Steps p.tables e below (s₁.setTop (mkF m 7 #[.val (.ref b), .val (.int 3)] [(.int 0)])) _
    refine XS.i2b X0.here hx rfl (hb hby d9_7) rfl ?_
    show Steps p.tables e below (s₁.setTop (mkF m 8 #[.val (.ref b), .val (.int 3)] [(.int (0 : Int32).toInt8.toInt32)])) _
    rw [show (0 : Int32).toInt8.toInt32 = (0 : Int32) from (by decide)]
    show Steps p.tables e below (s₁.setTop (mkF m 8 #[.val (.ref b), .val (.int 3)] [(.int 0)])) _
    exact kq)
  obtain ⟨fs, hr, hrun, hended, hW, hsame⟩ := X0.leave (v := some (.int (nar .byte (0 : Int32)))) (fun h => by rw [Bd.returns] at h; cases h)
  refine ⟨_, _, (by rw [← hA0]; exact G922 _ (retN X0 hx (t := .byte) Bd.returns (by simp) (hb hby d9_8) hr)), hrun, hended, _, _, rfl, ?_, ⟨_, rfl⟩, hW, hsame.mono (by decide) (by decide)⟩
  exact ⟨rfl, N0, e0⟩
set_option maxRecDepth 65536 in
set_option maxHeartbeats 40000000 in
theorem rmCd31 (l : Launch) (Z : State) (a0 : Array Value) (hw : ∀ d ∈ tables_1, d.before a0 Z = true) (ws : List Jvm.Cond) (b : Addr) (kb : ClassId) (vs : List Value) (h0 : Heap) (n0 : Nat) (Z0 : n0 ≤ h0.size) (Ab : Arv Z h0 b kb .byte (6 : Int32) vs (.int 0)) :
    MetFree l (⟨"java/lang/StringUTF16", "coderFromArrayLen", "([BI)B"⟩ : MethodName) (head1 (Jvm.Cond.code (⟨"java/lang/StringUTF16", "coderFromArrayLen", "([BI)B"⟩ : MethodName) jdk_52_method_15_code 2 (some .byte) :: ws) (Rm 0 0 0 0)) (fun aa UU => aa = #[(.ref b), (.int 3)] ∧ Z.Warmed39 UU.vm ∧ UU.heap = h0) (fun _ _ _ _ _ => True) (fun _ UU oo U' => ∃ v L, oo = .returned v ∧ Qr (.int 1) h0 n0 v U'.heap L ∧ FrameEnd UU oo U' L (Rm 0 0 0 0).cells (Rm 0 0 0 0).slots) := by
  refine MetFree.of_bodySF (plainFor_of_name pn_2) hisR ?_
  intro p e s m args below meth c s₁ Bd hml0 hP hK
  obtain ⟨rfl, hZ, hh⟩ := hP
  have hx := Bd.exec
  have hby := Bd.bytes
  have hml : c.maxLocals = 2 := hml0
  have hown : s.vm.findClass "java/lang/StringUTF16" = some m.cls := findClass_of_methodNamed Bd.named
  have hnm := (name_of_methodNamed Bd.named Bd.method).1
  have X0 : Stand p l e (Rm 0 0 0 0) s m #[(.ref b), (.int 3)] below meth c s₁ [] 0 0 := Stand.of_body Bd
  have e0 : s₁.heap = h0 := by rw [← hh, Bd.state]; rfl
  have N0 := Fr.nil n0
  obtain ⟨A0, hA0⟩ : ∃ A, A = s₁.setTop (entryFrame m #[(.ref b), (.int 3)] 2) := ⟨_, rfl⟩
  have G0 : Go p e below A0 (s₁.setTop (mkF m 0 #[.val (.ref b), .val (.int 3)] [])) := fun tq kq => by rw [hA0]; exact castTop (ef_rmCd31 m b (3 : Int32)) kq
  have G923 : Go p e below A0 (s₁.setTop (mkF m 2 #[.val (.ref b), .val (.int 3)] [(.ref b), (.int 3)])) := fun tq kq => G0 tq (by
    refine XS.iloadN X0.here hx rfl (hb hby d9_0) rfl ?_
    refine XS.aloadN X0.here hx rfl (hb hby d9_1) rfl rfl ?_
    exact kq)
  obtain ⟨cl924, Ar924, q924, S924, M924, H924, Gf924⟩ := id Ab
  have G925 : Go p e below A0 (s₁.setTop (mkF m 8 #[.val (.ref b), .val (.int 3)] [(.int 1)])) := fun tq kq => G923 tq (by
    refine X0.arraylength hx (by rw [e0]; exact Ar924.1) (State.isArrayOf_alike hZ.alike Ar924.2.1) (g := (mkF m 2 #[.val (.ref b), .val (.int 3)] [(.ref b), (.int 3)])) rfl rfl (hb hby d9_2) _ ?_
    rw [len_of S924 M924]
    show Steps p.tables e below (s₁.setTop (mkF m 3 #[.val (.ref b), .val (.int 3)] [(.int 6), (.int 3)])) _
    refine XS.isub X0.here hx rfl (hb hby d9_3) rfl ?_
    show Steps p.tables e below (s₁.setTop (mkF m 4 #[.val (.ref b), .val (.int 3)] [(.int ((3 : Int32) - (6 : Int32)))])) _
    rw [show ((3 : Int32) - (6 : Int32)) = (-3 : Int32) from (by decide : ((3 : Int32) - (6 : Int32)) = (-3 : Int32))]
    show Steps p.tables e below (s₁.setTop (mkF m 4 #[.val (.ref b), .val (.int 3)] [(.int (-3 : Int32))])) _
    refine XS.bipush X0.here hx rfl (hb hby d9_4) ?_
    refine XS.iushr X0.here hx rfl (hb hby d9_6) rfl ?_
    show Steps p.tables e below (s₁.setTop (mkF m 7 #[.val (.ref b), .val (.int 3)] [(.int (((-3 : Int32).toUInt32 >>> ((31 : Int32) &&& 31).toUInt32).toInt32))])) _
    rw [show (((-3 : Int32).toUInt32 >>> ((31 : Int32) &&& 31).toUInt32).toInt32) = (1 : Int32) from (by decide)]
    show Steps p.tables e below (s₁.setTop (mkF m 7 #[.val (.ref b), .val (.int 3)] [(.int 1)])) _
    refine XS.i2b X0.here hx rfl (hb hby d9_7) rfl ?_
    show Steps p.tables e below (s₁.setTop (mkF m 8 #[.val (.ref b), .val (.int 3)] [(.int (1 : Int32).toInt8.toInt32)])) _
    rw [show (1 : Int32).toInt8.toInt32 = (1 : Int32) from (by decide)]
    show Steps p.tables e below (s₁.setTop (mkF m 8 #[.val (.ref b), .val (.int 3)] [(.int 1)])) _
    exact kq)
  obtain ⟨fs, hr, hrun, hended, hW, hsame⟩ := X0.leave (v := some (.int (nar .byte (1 : Int32)))) (fun h => by rw [Bd.returns] at h; cases h)
  refine ⟨_, _, (by rw [← hA0]; exact G925 _ (retN X0 hx (t := .byte) Bd.returns (by simp) (hb hby d9_8) hr)), hrun, hended, _, _, rfl, ?_, ⟨_, rfl⟩, hW, hsame.mono (by decide) (by decide)⟩
  exact ⟨rfl, N0, e0⟩
def Qi2 (Z : State) (a : Addr) (u0 u1 : Int32) (h0 : Heap) (n0 : Nat) (v : Option Value) (h : Heap) (L : List Loc) : Prop := v = none ∧ Fr n0 L ∧ Keep h0 h [a] ∧ Sn2 Z h a u0 u1
set_option maxRecDepth 65536 in
set_option maxHeartbeats 40000000 in
theorem rmJ2 (l : Launch) (Z : State) (a0 : Array Value) (hw : ∀ d ∈ tables_1, d.before a0 Z = true) (ws : List Jvm.Cond) (a tx : Addr) (kt : ClassId) (u0 u1 : Int32) (cs : Int32) (fo : Value) (h0 : Heap) (n0 : Nat) (Z0 : n0 ≤ h0.size) (E : Exa Z h0 a "java/lang/String") (ga : n0 ≤ a) (Fv0 : Fld Z h0 a "java/lang/String" "value" "[B" .null) (Fc0 : Fld Z h0 a "java/lang/String" "coder" "B" (.int 0)) (At : Arv Z h0 tx kt .char (2 : Int32) [(.int u0), (.int u1)] (.int 0)) (hta : tx ≠ a) (ru0 : own_R u0) (ru1 : own_R u1) (hCS : Sta Z Z.heap "java/lang/String" "COMPACT_STRINGS" "Z" (.int cs)) (hcs : ¬ cs = (0 : Int32)) (hSF : Sta Z Z.heap "jdk/internal/util/Preconditions" "SIOOBE_FORMATTER" "Ljava/util/function/BiFunction;" fo) (hfo : fo.isRef = true) (hAD : Sta Z Z.heap "java/lang/StringUTF16" "$assertionsDisabled" "Z" (.int 1)) (hHI : Sta Z Z.heap "java/lang/StringUTF16" "HI_BYTE_SHIFT" "I" (.int 0)) (hLO : Sta Z Z.heap "java/lang/StringUTF16" "LO_BYTE_SHIFT" "I" (.int 8)) (hold : Old Z n0 h0) :
    MetFree l (⟨"java/lang/String", "<init>", "([CIILjava/lang/Void;)V"⟩ : MethodName) (head1 (Jvm.Cond.code (⟨"java/lang/String", "<init>", "([CIILjava/lang/Void;)V"⟩ : MethodName) jdk_42_method_149_code 6 none :: ws) (Rm 4 2 6 57)) (fun aa UU => aa = #[(.ref a), (.ref tx), (.int 0), (.int 2), .null] ∧ Z.Warmed39 UU.vm ∧ UU.heap = h0) (fun _ _ _ _ _ => True) (fun _ UU oo U' => ∃ v L, oo = .returned v ∧ Qi2 Z a u0 u1 h0 n0 v U'.heap L ∧ FrameEnd UU oo U' L (Rm 4 2 6 57).cells (Rm 4 2 6 57).slots) := by
  refine MetFree.of_bodySF (plainFor_of_name pn_1) hisR ?_
  intro p e s m args below meth c s₁ Bd hml0 hP hK
  obtain ⟨rfl, hZ, hh⟩ := hP
  have hx := Bd.exec
  have hby := Bd.bytes
  have hml : c.maxLocals = 6 := hml0
  have hown : s.vm.findClass "java/lang/String" = some m.cls := findClass_of_methodNamed Bd.named
  have hnm := (name_of_methodNamed Bd.named Bd.method).1
  have X0 : Stand p l e (Rm 4 2 6 57) s m #[(.ref a), (.ref tx), (.int 0), (.int 2), .null] below meth c s₁ [] 0 0 := Stand.of_body Bd
  have e0 : s₁.heap = h0 := by rw [← hh, Bd.state]; rfl
  have N0 := Fr.nil n0
  obtain ⟨A0, hA0⟩ : ∃ A, A = s₁.setTop (entryFrame m #[(.ref a), (.ref tx), (.int 0), (.int 2), .null] 6) := ⟨_, rfl⟩
  have G0 : Go p e below A0 (s₁.setTop (mkF m 0 #[.val (.ref a), .val (.ref tx), .val (.int 0), .val (.int 2), .val .null, .unset] [])) := fun tq kq => by rw [hA0]; exact castTop (ef_rmJ2 m a tx (0 : Int32) (2 : Int32)) kq
  have G926 : Go p e below A0 (s₁.setTop (mkF m 1 #[.val (.ref a), .val (.ref tx), .val (.int 0), .val (.int 2), .val .null, .unset] [(.ref a)])) := fun tq kq => G0 tq (by
    refine XS.aloadN X0.here hx rfl (hb hby d3_0) rfl rfl ?_
    exact kq)
  obtain ⟨T927, X927, e927, st927⟩ := initO X0 hx hZ hown (wd hw 17 rfl) (wd hw 18 rfl) (wd hw 19 rfl) e0 (g := (mkF m 1 #[.val (.ref a), .val (.ref tx), .val (.int 0), .val (.int 2), .val .null, .unset] [(.ref a)])) rfl (by rw [hml]; rfl) rfl (hb hby d3_1) (by decide) (W := 0) (by show 2 * 0 + _ ≤ _; exact Nat.le_of_eq rfl) (by decide)
  have G928 : Go p e below A0 (T927.setTop (mkF m 4 #[.val (.ref a), .val (.ref tx), .val (.int 0), .val (.int 2), .val .null, .unset] [])) := fun tq kq => G926 tq (st927 _ kq)
  have G929 : Go p e below A0 (T927.setTop (mkF m 27 #[.val (.ref a), .val (.ref tx), .val (.int 0), .val (.int 2), .val .null, .unset] [])) := fun tq kq => G928 tq (by
    refine XS.iloadN X927.here hx rfl (hb hby d3_4) rfl ?_
    refine XS.ifYes X927.here hx rfl (pc0 := 5) (pc' := 27) rfl (hb hby d3_5) rfl (by decide) (by decide) (by decide) ?_
    exact kq)
  obtain ⟨T930, X930, e930, st930⟩ := getS2 X927 hx hZ hown (host := "") (Or.inl (wd hw 37 rfl)) Via.refl e927 (hCS.ext hold.2) (g := (mkF m 27 #[.val (.ref a), .val (.ref tx), .val (.int 0), .val (.int 2), .val .null, .unset] [])) rfl (hb hby d3_27)
  have G931 : Go p e below A0 (T930.setTop (mkF m 30 #[.val (.ref a), .val (.ref tx), .val (.int 0), .val (.int 2), .val .null, .unset] [(.int cs)])) := fun tq kq => G929 tq (st930 _ kq)
  have G932 : Go p e below A0 (T930.setTop (mkF m 36 #[.val (.ref a), .val (.ref tx), .val (.int 0), .val (.int 2), .val .null, .unset] [(.int 2), (.int 0), (.ref tx)])) := fun tq kq => G931 tq (by
    refine XS.ifNo X930.here hx rfl (hb hby d3_30) rfl ((if0 _ _).trans (feq hcs).1) ?_
    refine XS.aloadN X930.here hx rfl (hb hby d3_33) rfl rfl ?_
    refine XS.iloadN X930.here hx rfl (hb hby d3_34) rfl ?_
    refine XS.iloadN X930.here hx rfl (hb hby d3_35) rfl ?_
    exact kq)
  obtain ⟨_, _, ⟨T933, L933, k933, n933⟩, -, X933, ⟨Lc933, hQ933, l933, y933, z933⟩, st933⟩ := Jvm.LawKit.callS X930 hx (y := (⟨"java/lang/StringUTF16", "compress", "([CII)[B"⟩ : MethodName)) hown (mvT hZ (wd hw 38 rfl)) (mvT hZ (wd hw 39 rfl)) (mvT hZ (wd hw 40 rfl)) (mvT hZ (wd hw 41 rfl)) (by decide) (backOf (W := 0) (rmCp2 l Z a0 hw [] tx kt u0 u1 cs fo h0 n0 Z0 At ru0 ru1 hCS hcs hSF hfo hAD hHI hLO hold) hZ (wd hw 41 rfl) (wd hw 40 rfl) (by decide) (by decide)) (g := (mkF m 36 #[.val (.ref a), .val (.ref tx), .val (.int 0), .val (.int 2), .val .null, .unset] [(.int 2), (.int 0), (.ref tx)])) rfl (by rw [hml]; rfl) (argsL := [(.ref tx), (.int 0), (.int 2)]) (rest := []) (lenOf pd_14 rfl) rfl (by show 2 * 0 + _ ≤ _; exact Nat.le_of_eq rfl) (hb hby d3_36) (fun _ _ => ⟨rfl, e930, (by decide : 0 + 2 ≤ _), (by decide : 0 + 6 ≤ _)⟩)
  dsimp only [Pt.U, Pt.locs, Pt.cells, Pt.slots] at X933 l933 y933 z933 st933 hQ933
  obtain rfl : k933 = 2 := y933
  obtain rfl : n933 = 6 := z933
  obtain ⟨bb933, kk933, rfl, N933q, K933, hs933, hg933, dj933⟩ := hQ933
  have N933 : Fr n0 L933 := by rw [l933]; exact Fr.app N0 N933q
  have lt_a_bb933 : a < bb933 := Nat.lt_of_lt_of_le E.lt hs933
  have lt_tx_bb933 : tx < bb933 := Nat.lt_of_lt_of_le At.lt hs933
  have sz_bb933 : h0.size ≤ bb933 := Nat.le_trans (Nat.le_refl h0.size) hs933
  have G934 : Go p e below A0 (T933.setTop (mkF m 39 #[.val (.ref a), .val (.ref tx), .val (.int 0), .val (.int 2), .val .null, .unset] [(.ref bb933)])) := fun tq kq => G932 tq (st933 _ kq)
  rcases dj933 with ⟨lu0, lu1, Ab933⟩ | Ab933
  · skip
    have G935 : Go p e below A0 (T933.setTop (mkF m 45 #[.val (.ref a), .val (.ref tx), .val (.int 0), .val (.int 2), .val .null, .val (.ref bb933)] [(.int 2), (.ref bb933), (.ref a)])) := fun tq kq => G934 tq (by
      refine XS.astore X933.here hx rfl (hb hby d3_39) rfl rfl (l' := #[.val (.ref a), .val (.ref tx), .val (.int 0), .val (.int 2), .val .null, .val (.ref bb933)]) rfl ?_
      refine XS.aloadN X933.here hx rfl (hb hby d3_41) rfl rfl ?_
      refine XS.aload X933.here hx rfl (hb hby d3_42) rfl rfl ?_
      refine XS.iloadN X933.here hx rfl (hb hby d3_44) rfl ?_
      exact kq)
    have f937 := (Nat.le_trans Z0 K933.1)
    obtain ⟨_, _, ⟨T936, L936, k936, n936⟩, -, X936, ⟨Lc936, hQ936, l936, y936, z936⟩, st936⟩ := Jvm.LawKit.callS X933 hx (y := (⟨"java/lang/StringUTF16", "coderFromArrayLen", "([BI)B"⟩ : MethodName)) hown (mvT hZ (wd hw 45 rfl)) (mvT hZ (wd hw 46 rfl)) (mvT hZ (wd hw 40 rfl)) (mvT hZ (wd hw 47 rfl)) (by decide) (backOf (W := 1) (rmCd20 l Z a0 hw [] bb933 kk933 [(.int (own_by u0)), (.int (own_by u1))] T933.heap n0 f937 Ab933) hZ (wd hw 47 rfl) (wd hw 40 rfl) (by decide) (by decide)) (g := (mkF m 45 #[.val (.ref a), .val (.ref tx), .val (.int 0), .val (.int 2), .val .null, .val (.ref bb933)] [(.int 2), (.ref bb933), (.ref a)])) rfl (by rw [hml]; rfl) (argsL := [(.ref bb933), (.int 2)]) (rest := [(.ref a)]) (lenOf pd_15 rfl) rfl (by show 2 * 0 + _ ≤ _; exact Nat.le_of_eq rfl) (hb hby d3_45) (fun _ _ => ⟨rfl, rfl, (by decide : 2 + 0 ≤ _), (by decide : 6 + 0 ≤ _)⟩)
    dsimp only [Pt.U, Pt.locs, Pt.cells, Pt.slots] at X936 l936 y936 z936 st936 hQ936
    obtain rfl : k936 = 2 := y936
    obtain rfl : n936 = 6 := z936
    obtain ⟨rfl, N936q, e936⟩ := hQ936
    have N936 : Fr n0 L936 := by rw [l936]; exact Fr.app N933 N936q
    have G938 : Go p e below A0 (T936.setTop (mkF m 48 #[.val (.ref a), .val (.ref tx), .val (.int 0), .val (.int 2), .val .null, .val (.ref bb933)] [(.int 0), (.ref a)])) := fun tq kq => G935 tq (st936 _ kq)
    have f939 := (E.keep K933)
    have f940 := (Fc0.keep K933 nin0)
    obtain ⟨T941, h941, X941, e941, W941, st941⟩ := putFN X936 hx hZ hown (wd hw 27 rfl) Via.refl e936 f940 f939 (Or.inr ⟨(wd hw 23 rfl), rfl, hnm⟩) (wd hw 7 rfl) (ty := .byte) (v' := (.int 0)) (by decide) rfl rfl (g := (mkF m 48 #[.val (.ref a), .val (.ref tx), .val (.int 0), .val (.int 2), .val .null, .val (.ref bb933)] [(.int 0), (.ref a)])) rfl rfl (hb hby d3_48)
    have N941 := Fr.snoc X941 N936 ga
    have fw941 := f940.same W941
    have G942 : Go p e below A0 (T941.setTop (mkF m 51 #[.val (.ref a), .val (.ref tx), .val (.int 0), .val (.int 2), .val .null, .val (.ref bb933)] [])) := fun tq kq => G938 tq (st941 _ kq)
    have G943 : Go p e below A0 (T941.setTop (mkF m 54 #[.val (.ref a), .val (.ref tx), .val (.int 0), .val (.int 2), .val .null, .val (.ref bb933)] [(.ref bb933), (.ref a)])) := fun tq kq => G942 tq (by
      refine XS.aloadN X941.here hx rfl (hb hby d3_51) rfl rfl ?_
      refine XS.aload X941.here hx rfl (hb hby d3_52) rfl rfl ?_
      exact kq)
    have f944 := (f939.wr W941)
    have f945 := ((Fv0.keep K933 nin0).other W941 (Or.inr (slot_ne (Or.inr (wd hw 22 rfl)) (Or.inr (wd hw 23 rfl)) (by decide) (t := (.array .byte)) (t' := .byte) (by decide) (by decide))))
    obtain ⟨T946, h946, X946, e946, W946, st946⟩ := putF X941 hx hZ hown (host := "") (Or.inl (wd hw 26 rfl)) Via.refl e941 f945 f944 (Or.inr ⟨(wd hw 22 rfl), rfl, hnm⟩) (wd hw 7 rfl) (ty := (.array .byte)) (by decide) rfl rfl (g := (mkF m 54 #[.val (.ref a), .val (.ref tx), .val (.int 0), .val (.int 2), .val .null, .val (.ref bb933)] [(.ref bb933), (.ref a)])) rfl rfl (hb hby d3_54)
    have N946 := Fr.snoc X946 N941 ga
    have fw946 := f945.same W946
    have G947 : Go p e below A0 (T946.setTop (mkF m 57 #[.val (.ref a), .val (.ref tx), .val (.int 0), .val (.int 2), .val .null, .val (.ref bb933)] [])) := fun tq kq => G943 tq (st946 _ kq)
    have f948 := (fw941.other W946 (Or.inr (slot_ne (Or.inr (wd hw 23 rfl)) (Or.inr (wd hw 22 rfl)) (by decide) (t := .byte) (t' := (.array .byte)) (by decide) (by decide))))
    have f949 := ((Ab933.other W941 (Ne.symm (Nat.ne_of_lt lt_a_bb933))).other W946 (Ne.symm (Nat.ne_of_lt lt_a_bb933)))
    obtain ⟨fs, hr, hrun, hended, hW, hsame⟩ := X946.leave (v := none) (fun _ => rfl)
    refine ⟨_, _, (by rw [← hA0]; exact G947 _ (X946.returnOut hx Bd.returns (hb hby d3_57) hr)), hrun, hended, _, _, rfl, ?_, ⟨_, rfl⟩, hW, hsame.mono (by decide) (by decide)⟩
    show Qi2 Z a u0 u1 h0 n0 _ T946.heap _
    rw [e946]
    exact ⟨rfl, N946, ((((Keep.refl h0 [a]).trans K933 all0).wr W941 (Or.inl (List.mem_of_getElem? (i := 0) rfl))).wr W946 (Or.inl (List.mem_of_getElem? (i := 0) rfl))), ⟨bb933, kk933, fw946, Or.inl ⟨lu0, lu1, f948, (Af.of f949).fn (own_cL2 u0 u1)⟩⟩⟩
  · skip
    have G950 : Go p e below A0 (T933.setTop (mkF m 45 #[.val (.ref a), .val (.ref tx), .val (.int 0), .val (.int 2), .val .null, .val (.ref bb933)] [(.int 2), (.ref bb933), (.ref a)])) := fun tq kq => G934 tq (by
      refine XS.astore X933.here hx rfl (hb hby d3_39) rfl rfl (l' := #[.val (.ref a), .val (.ref tx), .val (.int 0), .val (.int 2), .val .null, .val (.ref bb933)]) rfl ?_
      refine XS.aloadN X933.here hx rfl (hb hby d3_41) rfl rfl ?_
      refine XS.aload X933.here hx rfl (hb hby d3_42) rfl rfl ?_
      refine XS.iloadN X933.here hx rfl (hb hby d3_44) rfl ?_
      exact kq)
    have f952 := (Nat.le_trans Z0 K933.1)
    obtain ⟨_, _, ⟨T951, L951, k951, n951⟩, -, X951, ⟨Lc951, hQ951, l951, y951, z951⟩, st951⟩ := Jvm.LawKit.callS X933 hx (y := (⟨"java/lang/StringUTF16", "coderFromArrayLen", "([BI)B"⟩ : MethodName)) hown (mvT hZ (wd hw 45 rfl)) (mvT hZ (wd hw 46 rfl)) (mvT hZ (wd hw 40 rfl)) (mvT hZ (wd hw 47 rfl)) (by decide) (backOf (W := 1) (rmCd21 l Z a0 hw [] bb933 kk933 [(.int (own_lo u0)), (.int (own_hi u0)), (.int (own_lo u1)), (.int (own_hi u1))] T933.heap n0 f952 Ab933) hZ (wd hw 47 rfl) (wd hw 40 rfl) (by decide) (by decide)) (g := (mkF m 45 #[.val (.ref a), .val (.ref tx), .val (.int 0), .val (.int 2), .val .null, .val (.ref bb933)] [(.int 2), (.ref bb933), (.ref a)])) rfl (by rw [hml]; rfl) (argsL := [(.ref bb933), (.int 2)]) (rest := [(.ref a)]) (lenOf pd_15 rfl) rfl (by show 2 * 0 + _ ≤ _; exact Nat.le_of_eq rfl) (hb hby d3_45) (fun _ _ => ⟨rfl, rfl, (by decide : 2 + 0 ≤ _), (by decide : 6 + 0 ≤ _)⟩)
    dsimp only [Pt.U, Pt.locs, Pt.cells, Pt.slots] at X951 l951 y951 z951 st951 hQ951
    obtain rfl : k951 = 2 := y951
    obtain rfl : n951 = 6 := z951
    obtain ⟨rfl, N951q, e951⟩ := hQ951
    have N951 : Fr n0 L951 := by rw [l951]; exact Fr.app N933 N951q
    have G953 : Go p e below A0 (T951.setTop (mkF m 48 #[.val (.ref a), .val (.ref tx), .val (.int 0), .val (.int 2), .val .null, .val (.ref bb933)] [(.int 1), (.ref a)])) := fun tq kq => G950 tq (st951 _ kq)
    have f954 := (E.keep K933)
    have f955 := (Fc0.keep K933 nin0)
    obtain ⟨T956, h956, X956, e956, W956, st956⟩ := putFN X951 hx hZ hown (wd hw 27 rfl) Via.refl e951 f955 f954 (Or.inr ⟨(wd hw 23 rfl), rfl, hnm⟩) (wd hw 7 rfl) (ty := .byte) (v' := (.int 1)) (by decide) rfl rfl (g := (mkF m 48 #[.val (.ref a), .val (.ref tx), .val (.int 0), .val (.int 2), .val .null, .val (.ref bb933)] [(.int 1), (.ref a)])) rfl rfl (hb hby d3_48)
    have N956 := Fr.snoc X956 N951 ga
    have fw956 := f955.same W956
    have G957 : Go p e below A0 (T956.setTop (mkF m 51 #[.val (.ref a), .val (.ref tx), .val (.int 0), .val (.int 2), .val .null, .val (.ref bb933)] [])) := fun tq kq => G953 tq (st956 _ kq)
    have G958 : Go p e below A0 (T956.setTop (mkF m 54 #[.val (.ref a), .val (.ref tx), .val (.int 0), .val (.int 2), .val .null, .val (.ref bb933)] [(.ref bb933), (.ref a)])) := fun tq kq => G957 tq (by
      refine XS.aloadN X956.here hx rfl (hb hby d3_51) rfl rfl ?_
      refine XS.aload X956.here hx rfl (hb hby d3_52) rfl rfl ?_
      exact kq)
    have f959 := (f954.wr W956)
    have f960 := ((Fv0.keep K933 nin0).other W956 (Or.inr (slot_ne (Or.inr (wd hw 22 rfl)) (Or.inr (wd hw 23 rfl)) (by decide) (t := (.array .byte)) (t' := .byte) (by decide) (by decide))))
    obtain ⟨T961, h961, X961, e961, W961, st961⟩ := putF X956 hx hZ hown (host := "") (Or.inl (wd hw 26 rfl)) Via.refl e956 f960 f959 (Or.inr ⟨(wd hw 22 rfl), rfl, hnm⟩) (wd hw 7 rfl) (ty := (.array .byte)) (by decide) rfl rfl (g := (mkF m 54 #[.val (.ref a), .val (.ref tx), .val (.int 0), .val (.int 2), .val .null, .val (.ref bb933)] [(.ref bb933), (.ref a)])) rfl rfl (hb hby d3_54)
    have N961 := Fr.snoc X961 N956 ga
    have fw961 := f960.same W961
    have G962 : Go p e below A0 (T961.setTop (mkF m 57 #[.val (.ref a), .val (.ref tx), .val (.int 0), .val (.int 2), .val .null, .val (.ref bb933)] [])) := fun tq kq => G958 tq (st961 _ kq)
    have f963 := (fw956.other W961 (Or.inr (slot_ne (Or.inr (wd hw 23 rfl)) (Or.inr (wd hw 22 rfl)) (by decide) (t := .byte) (t' := (.array .byte)) (by decide) (by decide))))
    have f964 := ((Ab933.other W956 (Ne.symm (Nat.ne_of_lt lt_a_bb933))).other W961 (Ne.symm (Nat.ne_of_lt lt_a_bb933)))
    obtain ⟨fs, hr, hrun, hended, hW, hsame⟩ := X961.leave (v := none) (fun _ => rfl)
    refine ⟨_, _, (by rw [← hA0]; exact G962 _ (X961.returnOut hx Bd.returns (hb hby d3_57) hr)), hrun, hended, _, _, rfl, ?_, ⟨_, rfl⟩, hW, hsame.mono (by decide) (by decide)⟩
    show Qi2 Z a u0 u1 h0 n0 _ T961.heap _
    rw [e961]
    exact ⟨rfl, N961, ((((Keep.refl h0 [a]).trans K933 all0).wr W956 (Or.inl (List.mem_of_getElem? (i := 0) rfl))).wr W961 (Or.inl (List.mem_of_getElem? (i := 0) rfl))), ⟨bb933, kk933, fw961, Or.inr ⟨f963, (Af.of f964).fn (own_cU2 u0 u1)⟩⟩⟩
set_option maxRecDepth 65536 in
set_option maxHeartbeats 40000000 in
theorem rmH2 (l : Launch) (Z : State) (a0 : Array Value) (hw : ∀ d ∈ tables_1, d.before a0 Z = true) (ws : List Jvm.Cond) (a tx : Addr) (kt : ClassId) (u0 u1 : Int32) (cs : Int32) (fo : Value) (h0 : Heap) (n0 : Nat) (Z0 : n0 ≤ h0.size) (E : Exa Z h0 a "java/lang/String") (ga : n0 ≤ a) (Fv0 : Fld Z h0 a "java/lang/String" "value" "[B" .null) (Fc0 : Fld Z h0 a "java/lang/String" "coder" "B" (.int 0)) (At : Arv Z h0 tx kt .char (2 : Int32) [(.int u0), (.int u1)] (.int 0)) (hta : tx ≠ a) (ru0 : own_R u0) (ru1 : own_R u1) (hCS : Sta Z Z.heap "java/lang/String" "COMPACT_STRINGS" "Z" (.int cs)) (hcs : ¬ cs = (0 : Int32)) (hSF : Sta Z Z.heap "jdk/internal/util/Preconditions" "SIOOBE_FORMATTER" "Ljava/util/function/BiFunction;" fo) (hfo : fo.isRef = true) (hAD : Sta Z Z.heap "java/lang/StringUTF16" "$assertionsDisabled" "Z" (.int 1)) (hHI : Sta Z Z.heap "java/lang/StringUTF16" "HI_BYTE_SHIFT" "I" (.int 0)) (hLO : Sta Z Z.heap "java/lang/StringUTF16" "LO_BYTE_SHIFT" "I" (.int 8)) (hold : Old Z n0 h0) :
    MetFree l (⟨"java/lang/String", "<init>", "([C)V"⟩ : MethodName) (head1 (Jvm.Cond.code (⟨"java/lang/String", "<init>", "([C)V"⟩ : MethodName) jdk_42_method_3_code 2 none :: ws) (Rm 5 2 6 74)) (fun aa UU => aa = #[(.ref a), (.ref tx)] ∧ Z.Warmed39 UU.vm ∧ UU.heap = h0) (fun _ _ _ _ _ => True) (fun _ UU oo U' => ∃ v L, oo = .returned v ∧ Qi2 Z a u0 u1 h0 n0 v U'.heap L ∧ FrameEnd UU oo U' L (Rm 5 2 6 74).cells (Rm 5 2 6 74).slots) := by
  refine MetFree.of_bodySF (plainFor_of_name pn_1) hisR ?_
  intro p e s m args below meth c s₁ Bd hml0 hP hK
  obtain ⟨rfl, hZ, hh⟩ := hP
  have hx := Bd.exec
  have hby := Bd.bytes
  have hml : c.maxLocals = 2 := hml0
  have hown : s.vm.findClass "java/lang/String" = some m.cls := findClass_of_methodNamed Bd.named
  have hnm := (name_of_methodNamed Bd.named Bd.method).1
  have X0 : Stand p l e (Rm 5 2 6 74) s m #[(.ref a), (.ref tx)] below meth c s₁ [] 0 0 := Stand.of_body Bd
  have e0 : s₁.heap = h0 := by rw [← hh, Bd.state]; rfl
  have N0 := Fr.nil n0
  obtain ⟨A0, hA0⟩ : ∃ A, A = s₁.setTop (entryFrame m #[(.ref a), (.ref tx)] 2) := ⟨_, rfl⟩
  have G0 : Go p e below A0 (s₁.setTop (mkF m 0 #[.val (.ref a), .val (.ref tx)] [])) := fun tq kq => by rw [hA0]; exact castTop (ef_rmH2 m a tx) kq
  have G965 : Go p e below A0 (s₁.setTop (mkF m 4 #[.val (.ref a), .val (.ref tx)] [(.ref tx), (.int 0), (.ref tx), (.ref a)])) := fun tq kq => G0 tq (by
    refine XS.aloadN X0.here hx rfl (hb hby d2_0) rfl rfl ?_
    refine XS.aloadN X0.here hx rfl (hb hby d2_1) rfl rfl ?_
    refine XS.iconst X0.here hx rfl (hb hby d2_2) ?_
    refine XS.aloadN X0.here hx rfl (hb hby d2_3) rfl rfl ?_
    exact kq)
  obtain ⟨cl966, Ar966, q966, S966, M966, H966, Gf966⟩ := id At
  have G967 : Go p e below A0 (s₁.setTop (mkF m 6 #[.val (.ref a), .val (.ref tx)] [.null, (.int 2), (.int 0), (.ref tx), (.ref a)])) := fun tq kq => G965 tq (by
    refine X0.arraylength hx (by rw [e0]; exact Ar966.1) (State.isArrayOf_alike hZ.alike Ar966.2.1) (g := (mkF m 4 #[.val (.ref a), .val (.ref tx)] [(.ref tx), (.int 0), (.ref tx), (.ref a)])) rfl rfl (hb hby d2_4) _ ?_
    rw [len_of S966 M966]
    show Steps p.tables e below (s₁.setTop (mkF m 5 #[.val (.ref a), .val (.ref tx)] [(.int 2), (.int 0), (.ref tx), (.ref a)])) _
    refine XS.aconstNull X0.here hx rfl (hb hby d2_5) ?_
    exact kq)
  obtain ⟨_, _, ⟨T968, L968, k968, n968⟩, -, X968, ⟨Lc968, hQ968, l968, y968, z968⟩, st968⟩ := X0.specialBack hx (y := (⟨"java/lang/String", "<init>", "([CIILjava/lang/Void;)V"⟩ : MethodName)) rfl hown (mvT hZ (wd hw 13 rfl)) (mvT hZ (wd hw 14 rfl)) (mvT hZ (wd hw 16 rfl)) (by decide) (backOf (W := 0) (rmJ2 l Z a0 hw [] a tx kt u0 u1 cs fo h0 n0 Z0 E ga Fv0 Fc0 At hta ru0 ru1 hCS hcs hSF hfo hAD hHI hLO hold) hZ (wd hw 16 rfl) (wd hw 8 rfl) (by decide) (by decide)) (g := (mkF m 6 #[.val (.ref a), .val (.ref tx)] [.null, (.int 2), (.int 0), (.ref tx), (.ref a)])) rfl (by rw [hml]; rfl) (Steps.refl _) (a := a) (argsL := [(.ref tx), (.int 0), (.int 2), .null]) (rest := []) (lenOf pd_16 rfl) rfl (by show 2 * 0 + _ ≤ _; exact Nat.le_of_eq rfl) (hb hby d2_6) (fun _ _ => ⟨rfl, e0, (by decide : 0 + 2 ≤ _), (by decide : 0 + 6 ≤ _)⟩)
  dsimp only [Pt.U, Pt.locs, Pt.cells, Pt.slots] at X968 l968 y968 z968 st968 hQ968
  obtain rfl : k968 = 2 := y968
  obtain rfl : n968 = 6 := z968
  obtain ⟨rfl, N968q, K968, sn968⟩ := hQ968
  have N968 : Fr n0 L968 := by rw [l968]; exact Fr.app N0 N968q
  have G969 : Go p e below A0 (T968.setTop (mkF m 9 #[.val (.ref a), .val (.ref tx)] [])) := fun tq kq => G967 tq (st968.trans kq)
  obtain ⟨fs, hr, hrun, hended, hW, hsame⟩ := X968.leave (v := none) (fun _ => rfl)
  refine ⟨_, _, (by rw [← hA0]; exact G969 _ (X968.returnOut hx Bd.returns (hb hby d2_9) hr)), hrun, hended, _, _, rfl, ?_, ⟨_, rfl⟩, hW, hsame.mono (by decide) (by decide)⟩
  show Qi2 Z a u0 u1 h0 n0 _ T968.heap _
  exact ⟨rfl, N968, ((Keep.refl h0 [a]).trans K968 (allS (P := fun x => x ∈ [a] ∨ h0.size ≤ x) (Or.inl (List.mem_of_getElem? (i := 0) rfl)) all0)), sn968⟩
def Qi3 (Z : State) (a : Addr) (u0 u1 u2 : Int32) (h0 : Heap) (n0 : Nat) (v : Option Value) (h : Heap) (L : List Loc) : Prop := v = none ∧ Fr n0 L ∧ Keep h0 h [a] ∧ Sn3 Z h a u0 u1 u2
set_option maxRecDepth 65536 in
set_option maxHeartbeats 40000000 in
theorem rmJ3 (l : Launch) (Z : State) (a0 : Array Value) (hw : ∀ d ∈ tables_1, d.before a0 Z = true) (ws : List Jvm.Cond) (a tx : Addr) (kt : ClassId) (u0 u1 u2 : Int32) (cs : Int32) (fo : Value) (h0 : Heap) (n0 : Nat) (Z0 : n0 ≤ h0.size) (E : Exa Z h0 a "java/lang/String") (ga : n0 ≤ a) (Fv0 : Fld Z h0 a "java/lang/String" "value" "[B" .null) (Fc0 : Fld Z h0 a "java/lang/String" "coder" "B" (.int 0)) (At : Arv Z h0 tx kt .char (3 : Int32) [(.int u0), (.int u1), (.int u2)] (.int 0)) (hta : tx ≠ a) (ru0 : own_R u0) (ru1 : own_R u1) (ru2 : own_R u2) (hCS : Sta Z Z.heap "java/lang/String" "COMPACT_STRINGS" "Z" (.int cs)) (hcs : ¬ cs = (0 : Int32)) (hSF : Sta Z Z.heap "jdk/internal/util/Preconditions" "SIOOBE_FORMATTER" "Ljava/util/function/BiFunction;" fo) (hfo : fo.isRef = true) (hAD : Sta Z Z.heap "java/lang/StringUTF16" "$assertionsDisabled" "Z" (.int 1)) (hHI : Sta Z Z.heap "java/lang/StringUTF16" "HI_BYTE_SHIFT" "I" (.int 0)) (hLO : Sta Z Z.heap "java/lang/StringUTF16" "LO_BYTE_SHIFT" "I" (.int 8)) (hold : Old Z n0 h0) :
    MetFree l (⟨"java/lang/String", "<init>", "([CIILjava/lang/Void;)V"⟩ : MethodName) (head1 (Jvm.Cond.code (⟨"java/lang/String", "<init>", "([CIILjava/lang/Void;)V"⟩ : MethodName) jdk_42_method_149_code 6 none :: ws) (Rm 4 2 9 57)) (fun aa UU => aa = #[(.ref a), (.ref tx), (.int 0), (.int 3), .null] ∧ Z.Warmed39 UU.vm ∧ UU.heap = h0) (fun _ _ _ _ _ => True) (fun _ UU oo U' => ∃ v L, oo = .returned v ∧ Qi3 Z a u0 u1 u2 h0 n0 v U'.heap L ∧ FrameEnd UU oo U' L (Rm 4 2 9 57).cells (Rm 4 2 9 57).slots) := by
  refine MetFree.of_bodySF (plainFor_of_name pn_1) hisR ?_
  intro p e s m args below meth c s₁ Bd hml0 hP hK
  obtain ⟨rfl, hZ, hh⟩ := hP
  have hx := Bd.exec
  have hby := Bd.bytes
  have hml : c.maxLocals = 6 := hml0
  have hown : s.vm.findClass "java/lang/String" = some m.cls := findClass_of_methodNamed Bd.named
  have hnm := (name_of_methodNamed Bd.named Bd.method).1
  have X0 : Stand p l e (Rm 4 2 9 57) s m #[(.ref a), (.ref tx), (.int 0), (.int 3), .null] below meth c s₁ [] 0 0 := Stand.of_body Bd
  have e0 : s₁.heap = h0 := by rw [← hh, Bd.state]; rfl
  have N0 := Fr.nil n0
  obtain ⟨A0, hA0⟩ : ∃ A, A = s₁.setTop (entryFrame m #[(.ref a), (.ref tx), (.int 0), (.int 3), .null] 6) := ⟨_, rfl⟩
  have G0 : Go p e below A0 (s₁.setTop (mkF m 0 #[.val (.ref a), .val (.ref tx), .val (.int 0), .val (.int 3), .val .null, .unset] [])) := fun tq kq => by rw [hA0]; exact castTop (ef_rmJ3 m a tx (0 : Int32) (3 : Int32)) kq
  have G970 : Go p e below A0 (s₁.setTop (mkF m 1 #[.val (.ref a), .val (.ref tx), .val (.int 0), .val (.int 3), .val .null, .unset] [(.ref a)])) := fun tq kq => G0 tq (by
    refine XS.aloadN X0.here hx rfl (hb hby d3_0) rfl rfl ?_
    exact kq)
  obtain ⟨T971, X971, e971, st971⟩ := initO X0 hx hZ hown (wd hw 17 rfl) (wd hw 18 rfl) (wd hw 19 rfl) e0 (g := (mkF m 1 #[.val (.ref a), .val (.ref tx), .val (.int 0), .val (.int 3), .val .null, .unset] [(.ref a)])) rfl (by rw [hml]; rfl) rfl (hb hby d3_1) (by decide) (W := 0) (by show 2 * 0 + _ ≤ _; exact Nat.le_of_eq rfl) (by decide)
  have G972 : Go p e below A0 (T971.setTop (mkF m 4 #[.val (.ref a), .val (.ref tx), .val (.int 0), .val (.int 3), .val .null, .unset] [])) := fun tq kq => G970 tq (st971 _ kq)
  have G973 : Go p e below A0 (T971.setTop (mkF m 27 #[.val (.ref a), .val (.ref tx), .val (.int 0), .val (.int 3), .val .null, .unset] [])) := fun tq kq => G972 tq (by
    refine XS.iloadN X971.here hx rfl (hb hby d3_4) rfl ?_
    refine XS.ifYes X971.here hx rfl (pc0 := 5) (pc' := 27) rfl (hb hby d3_5) rfl (by decide) (by decide) (by decide) ?_
    exact kq)
  obtain ⟨T974, X974, e974, st974⟩ := getS2 X971 hx hZ hown (host := "") (Or.inl (wd hw 37 rfl)) Via.refl e971 (hCS.ext hold.2) (g := (mkF m 27 #[.val (.ref a), .val (.ref tx), .val (.int 0), .val (.int 3), .val .null, .unset] [])) rfl (hb hby d3_27)
  have G975 : Go p e below A0 (T974.setTop (mkF m 30 #[.val (.ref a), .val (.ref tx), .val (.int 0), .val (.int 3), .val .null, .unset] [(.int cs)])) := fun tq kq => G973 tq (st974 _ kq)
  have G976 : Go p e below A0 (T974.setTop (mkF m 36 #[.val (.ref a), .val (.ref tx), .val (.int 0), .val (.int 3), .val .null, .unset] [(.int 3), (.int 0), (.ref tx)])) := fun tq kq => G975 tq (by
    refine XS.ifNo X974.here hx rfl (hb hby d3_30) rfl ((if0 _ _).trans (feq hcs).1) ?_
    refine XS.aloadN X974.here hx rfl (hb hby d3_33) rfl rfl ?_
    refine XS.iloadN X974.here hx rfl (hb hby d3_34) rfl ?_
    refine XS.iloadN X974.here hx rfl (hb hby d3_35) rfl ?_
    exact kq)
  obtain ⟨_, _, ⟨T977, L977, k977, n977⟩, -, X977, ⟨Lc977, hQ977, l977, y977, z977⟩, st977⟩ := Jvm.LawKit.callS X974 hx (y := (⟨"java/lang/StringUTF16", "compress", "([CII)[B"⟩ : MethodName)) hown (mvT hZ (wd hw 38 rfl)) (mvT hZ (wd hw 39 rfl)) (mvT hZ (wd hw 40 rfl)) (mvT hZ (wd hw 41 rfl)) (by decide) (backOf (W := 0) (rmCp3 l Z a0 hw [] tx kt u0 u1 u2 cs fo h0 n0 Z0 At ru0 ru1 ru2 hCS hcs hSF hfo hAD hHI hLO hold) hZ (wd hw 41 rfl) (wd hw 40 rfl) (by decide) (by decide)) (g := (mkF m 36 #[.val (.ref a), .val (.ref tx), .val (.int 0), .val (.int 3), .val .null, .unset] [(.int 3), (.int 0), (.ref tx)])) rfl (by rw [hml]; rfl) (argsL := [(.ref tx), (.int 0), (.int 3)]) (rest := []) (lenOf pd_14 rfl) rfl (by show 2 * 0 + _ ≤ _; exact Nat.le_of_eq rfl) (hb hby d3_36) (fun _ _ => ⟨rfl, e974, (by decide : 0 + 2 ≤ _), (by decide : 0 + 9 ≤ _)⟩)
  dsimp only [Pt.U, Pt.locs, Pt.cells, Pt.slots] at X977 l977 y977 z977 st977 hQ977
  obtain rfl : k977 = 2 := y977
  obtain rfl : n977 = 9 := z977
  obtain ⟨bb977, kk977, rfl, N977q, K977, hs977, hg977, dj977⟩ := hQ977
  have N977 : Fr n0 L977 := by rw [l977]; exact Fr.app N0 N977q
  have lt_a_bb977 : a < bb977 := Nat.lt_of_lt_of_le E.lt hs977
  have lt_tx_bb977 : tx < bb977 := Nat.lt_of_lt_of_le At.lt hs977
  have sz_bb977 : h0.size ≤ bb977 := Nat.le_trans (Nat.le_refl h0.size) hs977
  have G978 : Go p e below A0 (T977.setTop (mkF m 39 #[.val (.ref a), .val (.ref tx), .val (.int 0), .val (.int 3), .val .null, .unset] [(.ref bb977)])) := fun tq kq => G976 tq (st977 _ kq)
  rcases dj977 with ⟨lu0, lu1, lu2, Ab977⟩ | Ab977
  · skip
    have G979 : Go p e below A0 (T977.setTop (mkF m 45 #[.val (.ref a), .val (.ref tx), .val (.int 0), .val (.int 3), .val .null, .val (.ref bb977)] [(.int 3), (.ref bb977), (.ref a)])) := fun tq kq => G978 tq (by
      refine XS.astore X977.here hx rfl (hb hby d3_39) rfl rfl (l' := #[.val (.ref a), .val (.ref tx), .val (.int 0), .val (.int 3), .val .null, .val (.ref bb977)]) rfl ?_
      refine XS.aloadN X977.here hx rfl (hb hby d3_41) rfl rfl ?_
      refine XS.aload X977.here hx rfl (hb hby d3_42) rfl rfl ?_
      refine XS.iloadN X977.here hx rfl (hb hby d3_44) rfl ?_
      exact kq)
    have f981 := (Nat.le_trans Z0 K977.1)
    obtain ⟨_, _, ⟨T980, L980, k980, n980⟩, -, X980, ⟨Lc980, hQ980, l980, y980, z980⟩, st980⟩ := Jvm.LawKit.callS X977 hx (y := (⟨"java/lang/StringUTF16", "coderFromArrayLen", "([BI)B"⟩ : MethodName)) hown (mvT hZ (wd hw 45 rfl)) (mvT hZ (wd hw 46 rfl)) (mvT hZ (wd hw 40 rfl)) (mvT hZ (wd hw 47 rfl)) (by decide) (backOf (W := 1) (rmCd30 l Z a0 hw [] bb977 kk977 [(.int (own_by u0)), (.int (own_by u1)), (.int (own_by u2))] T977.heap n0 f981 Ab977) hZ (wd hw 47 rfl) (wd hw 40 rfl) (by decide) (by decide)) (g := (mkF m 45 #[.val (.ref a), .val (.ref tx), .val (.int 0), .val (.int 3), .val .null, .val (.ref bb977)] [(.int 3), (.ref bb977), (.ref a)])) rfl (by rw [hml]; rfl) (argsL := [(.ref bb977), (.int 3)]) (rest := [(.ref a)]) (lenOf pd_15 rfl) rfl (by show 2 * 0 + _ ≤ _; exact Nat.le_of_eq rfl) (hb hby d3_45) (fun _ _ => ⟨rfl, rfl, (by decide : 2 + 0 ≤ _), (by decide : 9 + 0 ≤ _)⟩)
    dsimp only [Pt.U, Pt.locs, Pt.cells, Pt.slots] at X980 l980 y980 z980 st980 hQ980
    obtain rfl : k980 = 2 := y980
    obtain rfl : n980 = 9 := z980
    obtain ⟨rfl, N980q, e980⟩ := hQ980
    have N980 : Fr n0 L980 := by rw [l980]; exact Fr.app N977 N980q
    have G982 : Go p e below A0 (T980.setTop (mkF m 48 #[.val (.ref a), .val (.ref tx), .val (.int 0), .val (.int 3), .val .null, .val (.ref bb977)] [(.int 0), (.ref a)])) := fun tq kq => G979 tq (st980 _ kq)
    have f983 := (E.keep K977)
    have f984 := (Fc0.keep K977 nin0)
    obtain ⟨T985, h985, X985, e985, W985, st985⟩ := putFN X980 hx hZ hown (wd hw 27 rfl) Via.refl e980 f984 f983 (Or.inr ⟨(wd hw 23 rfl), rfl, hnm⟩) (wd hw 7 rfl) (ty := .byte) (v' := (.int 0)) (by decide) rfl rfl (g := (mkF m 48 #[.val (.ref a), .val (.ref tx), .val (.int 0), .val (.int 3), .val .null, .val (.ref bb977)] [(.int 0), (.ref a)])) rfl rfl (hb hby d3_48)
    have N985 := Fr.snoc X985 N980 ga
    have fw985 := f984.same W985
    have G986 : Go p e below A0 (T985.setTop (mkF m 51 #[.val (.ref a), .val (.ref tx), .val (.int 0), .val (.int 3), .val .null, .val (.ref bb977)] [])) := fun tq kq => G982 tq (st985 _ kq)
    have G987 : Go p e below A0 (T985.setTop (mkF m 54 #[.val (.ref a), .val (.ref tx), .val (.int 0), .val (.int 3), .val .null, .val (.ref bb977)] [(.ref bb977), (.ref a)])) := fun tq kq => G986 tq (by
      refine XS.aloadN X985.here hx rfl (hb hby d3_51) rfl rfl ?_
      refine XS.aload X985.here hx rfl (hb hby d3_52) rfl rfl ?_
      exact kq)
    have f988 := (f983.wr W985)
    have f989 := ((Fv0.keep K977 nin0).other W985 (Or.inr (slot_ne (Or.inr (wd hw 22 rfl)) (Or.inr (wd hw 23 rfl)) (by decide) (t := (.array .byte)) (t' := .byte) (by decide) (by decide))))
    obtain ⟨T990, h990, X990, e990, W990, st990⟩ := putF X985 hx hZ hown (host := "") (Or.inl (wd hw 26 rfl)) Via.refl e985 f989 f988 (Or.inr ⟨(wd hw 22 rfl), rfl, hnm⟩) (wd hw 7 rfl) (ty := (.array .byte)) (by decide) rfl rfl (g := (mkF m 54 #[.val (.ref a), .val (.ref tx), .val (.int 0), .val (.int 3), .val .null, .val (.ref bb977)] [(.ref bb977), (.ref a)])) rfl rfl (hb hby d3_54)
    have N990 := Fr.snoc X990 N985 ga
    have fw990 := f989.same W990
    have G991 : Go p e below A0 (T990.setTop (mkF m 57 #[.val (.ref a), .val (.ref tx), .val (.int 0), .val (.int 3), .val .null, .val (.ref bb977)] [])) := fun tq kq => G987 tq (st990 _ kq)
    have f992 := (fw985.other W990 (Or.inr (slot_ne (Or.inr (wd hw 23 rfl)) (Or.inr (wd hw 22 rfl)) (by decide) (t := .byte) (t' := (.array .byte)) (by decide) (by decide))))
    have f993 := ((Ab977.other W985 (Ne.symm (Nat.ne_of_lt lt_a_bb977))).other W990 (Ne.symm (Nat.ne_of_lt lt_a_bb977)))
    obtain ⟨fs, hr, hrun, hended, hW, hsame⟩ := X990.leave (v := none) (fun _ => rfl)
    refine ⟨_, _, (by rw [← hA0]; exact G991 _ (X990.returnOut hx Bd.returns (hb hby d3_57) hr)), hrun, hended, _, _, rfl, ?_, ⟨_, rfl⟩, hW, hsame.mono (by decide) (by decide)⟩
    show Qi3 Z a u0 u1 u2 h0 n0 _ T990.heap _
    rw [e990]
    exact ⟨rfl, N990, ((((Keep.refl h0 [a]).trans K977 all0).wr W985 (Or.inl (List.mem_of_getElem? (i := 0) rfl))).wr W990 (Or.inl (List.mem_of_getElem? (i := 0) rfl))), ⟨bb977, kk977, fw990, Or.inl ⟨lu0, lu1, lu2, f992, (Af.of f993).fn (own_cL3 u0 u1 u2)⟩⟩⟩
  · skip
    have G994 : Go p e below A0 (T977.setTop (mkF m 45 #[.val (.ref a), .val (.ref tx), .val (.int 0), .val (.int 3), .val .null, .val (.ref bb977)] [(.int 3), (.ref bb977), (.ref a)])) := fun tq kq => G978 tq (by
      refine XS.astore X977.here hx rfl (hb hby d3_39) rfl rfl (l' := #[.val (.ref a), .val (.ref tx), .val (.int 0), .val (.int 3), .val .null, .val (.ref bb977)]) rfl ?_
      refine XS.aloadN X977.here hx rfl (hb hby d3_41) rfl rfl ?_
      refine XS.aload X977.here hx rfl (hb hby d3_42) rfl rfl ?_
      refine XS.iloadN X977.here hx rfl (hb hby d3_44) rfl ?_
      exact kq)
    have f996 := (Nat.le_trans Z0 K977.1)
    obtain ⟨_, _, ⟨T995, L995, k995, n995⟩, -, X995, ⟨Lc995, hQ995, l995, y995, z995⟩, st995⟩ := Jvm.LawKit.callS X977 hx (y := (⟨"java/lang/StringUTF16", "coderFromArrayLen", "([BI)B"⟩ : MethodName)) hown (mvT hZ (wd hw 45 rfl)) (mvT hZ (wd hw 46 rfl)) (mvT hZ (wd hw 40 rfl)) (mvT hZ (wd hw 47 rfl)) (by decide) (backOf (W := 1) (rmCd31 l Z a0 hw [] bb977 kk977 [(.int (own_lo u0)), (.int (own_hi u0)), (.int (own_lo u1)), (.int (own_hi u1)), (.int (own_lo u2)), (.int (own_hi u2))] T977.heap n0 f996 Ab977) hZ (wd hw 47 rfl) (wd hw 40 rfl) (by decide) (by decide)) (g := (mkF m 45 #[.val (.ref a), .val (.ref tx), .val (.int 0), .val (.int 3), .val .null, .val (.ref bb977)] [(.int 3), (.ref bb977), (.ref a)])) rfl (by rw [hml]; rfl) (argsL := [(.ref bb977), (.int 3)]) (rest := [(.ref a)]) (lenOf pd_15 rfl) rfl (by show 2 * 0 + _ ≤ _; exact Nat.le_of_eq rfl) (hb hby d3_45) (fun _ _ => ⟨rfl, rfl, (by decide : 2 + 0 ≤ _), (by decide : 9 + 0 ≤ _)⟩)
    dsimp only [Pt.U, Pt.locs, Pt.cells, Pt.slots] at X995 l995 y995 z995 st995 hQ995
    obtain rfl : k995 = 2 := y995
    obtain rfl : n995 = 9 := z995
    obtain ⟨rfl, N995q, e995⟩ := hQ995
    have N995 : Fr n0 L995 := by rw [l995]; exact Fr.app N977 N995q
    have G997 : Go p e below A0 (T995.setTop (mkF m 48 #[.val (.ref a), .val (.ref tx), .val (.int 0), .val (.int 3), .val .null, .val (.ref bb977)] [(.int 1), (.ref a)])) := fun tq kq => G994 tq (st995 _ kq)
    have f998 := (E.keep K977)
    have f999 := (Fc0.keep K977 nin0)
    obtain ⟨T1000, h1000, X1000, e1000, W1000, st1000⟩ := putFN X995 hx hZ hown (wd hw 27 rfl) Via.refl e995 f999 f998 (Or.inr ⟨(wd hw 23 rfl), rfl, hnm⟩) (wd hw 7 rfl) (ty := .byte) (v' := (.int 1)) (by decide) rfl rfl (g := (mkF m 48 #[.val (.ref a), .val (.ref tx), .val (.int 0), .val (.int 3), .val .null, .val (.ref bb977)] [(.int 1), (.ref a)])) rfl rfl (hb hby d3_48)
    have N1000 := Fr.snoc X1000 N995 ga
    have fw1000 := f999.same W1000
    have G1001 : Go p e below A0 (T1000.setTop (mkF m 51 #[.val (.ref a), .val (.ref tx), .val (.int 0), .val (.int 3), .val .null, .val (.ref bb977)] [])) := fun tq kq => G997 tq (st1000 _ kq)
    have G1002 : Go p e below A0 (T1000.setTop (mkF m 54 #[.val (.ref a), .val (.ref tx), .val (.int 0), .val (.int 3), .val .null, .val (.ref bb977)] [(.ref bb977), (.ref a)])) := fun tq kq => G1001 tq (by
      refine XS.aloadN X1000.here hx rfl (hb hby d3_51) rfl rfl ?_
      refine XS.aload X1000.here hx rfl (hb hby d3_52) rfl rfl ?_
      exact kq)
    have f1003 := (f998.wr W1000)
    have f1004 := ((Fv0.keep K977 nin0).other W1000 (Or.inr (slot_ne (Or.inr (wd hw 22 rfl)) (Or.inr (wd hw 23 rfl)) (by decide) (t := (.array .byte)) (t' := .byte) (by decide) (by decide))))
    obtain ⟨T1005, h1005, X1005, e1005, W1005, st1005⟩ := putF X1000 hx hZ hown (host := "") (Or.inl (wd hw 26 rfl)) Via.refl e1000 f1004 f1003 (Or.inr ⟨(wd hw 22 rfl), rfl, hnm⟩) (wd hw 7 rfl) (ty := (.array .byte)) (by decide) rfl rfl (g := (mkF m 54 #[.val (.ref a), .val (.ref tx), .val (.int 0), .val (.int 3), .val .null, .val (.ref bb977)] [(.ref bb977), (.ref a)])) rfl rfl (hb hby d3_54)
    have N1005 := Fr.snoc X1005 N1000 ga
    have fw1005 := f1004.same W1005
    have G1006 : Go p e below A0 (T1005.setTop (mkF m 57 #[.val (.ref a), .val (.ref tx), .val (.int 0), .val (.int 3), .val .null, .val (.ref bb977)] [])) := fun tq kq => G1002 tq (st1005 _ kq)
    have f1007 := (fw1000.other W1005 (Or.inr (slot_ne (Or.inr (wd hw 23 rfl)) (Or.inr (wd hw 22 rfl)) (by decide) (t := .byte) (t' := (.array .byte)) (by decide) (by decide))))
    have f1008 := ((Ab977.other W1000 (Ne.symm (Nat.ne_of_lt lt_a_bb977))).other W1005 (Ne.symm (Nat.ne_of_lt lt_a_bb977)))
    obtain ⟨fs, hr, hrun, hended, hW, hsame⟩ := X1005.leave (v := none) (fun _ => rfl)
    refine ⟨_, _, (by rw [← hA0]; exact G1006 _ (X1005.returnOut hx Bd.returns (hb hby d3_57) hr)), hrun, hended, _, _, rfl, ?_, ⟨_, rfl⟩, hW, hsame.mono (by decide) (by decide)⟩
    show Qi3 Z a u0 u1 u2 h0 n0 _ T1005.heap _
    rw [e1005]
    exact ⟨rfl, N1005, ((((Keep.refl h0 [a]).trans K977 all0).wr W1000 (Or.inl (List.mem_of_getElem? (i := 0) rfl))).wr W1005 (Or.inl (List.mem_of_getElem? (i := 0) rfl))), ⟨bb977, kk977, fw1005, Or.inr ⟨f1007, (Af.of f1008).fn (own_cU3 u0 u1 u2)⟩⟩⟩
set_option maxRecDepth 65536 in
set_option maxHeartbeats 40000000 in
theorem rmH3 (l : Launch) (Z : State) (a0 : Array Value) (hw : ∀ d ∈ tables_1, d.before a0 Z = true) (ws : List Jvm.Cond) (a tx : Addr) (kt : ClassId) (u0 u1 u2 : Int32) (cs : Int32) (fo : Value) (h0 : Heap) (n0 : Nat) (Z0 : n0 ≤ h0.size) (E : Exa Z h0 a "java/lang/String") (ga : n0 ≤ a) (Fv0 : Fld Z h0 a "java/lang/String" "value" "[B" .null) (Fc0 : Fld Z h0 a "java/lang/String" "coder" "B" (.int 0)) (At : Arv Z h0 tx kt .char (3 : Int32) [(.int u0), (.int u1), (.int u2)] (.int 0)) (hta : tx ≠ a) (ru0 : own_R u0) (ru1 : own_R u1) (ru2 : own_R u2) (hCS : Sta Z Z.heap "java/lang/String" "COMPACT_STRINGS" "Z" (.int cs)) (hcs : ¬ cs = (0 : Int32)) (hSF : Sta Z Z.heap "jdk/internal/util/Preconditions" "SIOOBE_FORMATTER" "Ljava/util/function/BiFunction;" fo) (hfo : fo.isRef = true) (hAD : Sta Z Z.heap "java/lang/StringUTF16" "$assertionsDisabled" "Z" (.int 1)) (hHI : Sta Z Z.heap "java/lang/StringUTF16" "HI_BYTE_SHIFT" "I" (.int 0)) (hLO : Sta Z Z.heap "java/lang/StringUTF16" "LO_BYTE_SHIFT" "I" (.int 8)) (hold : Old Z n0 h0) :
    MetFree l (⟨"java/lang/String", "<init>", "([C)V"⟩ : MethodName) (head1 (Jvm.Cond.code (⟨"java/lang/String", "<init>", "([C)V"⟩ : MethodName) jdk_42_method_3_code 2 none :: ws) (Rm 5 2 9 74)) (fun aa UU => aa = #[(.ref a), (.ref tx)] ∧ Z.Warmed39 UU.vm ∧ UU.heap = h0) (fun _ _ _ _ _ => True) (fun _ UU oo U' => ∃ v L, oo = .returned v ∧ Qi3 Z a u0 u1 u2 h0 n0 v U'.heap L ∧ FrameEnd UU oo U' L (Rm 5 2 9 74).cells (Rm 5 2 9 74).slots) := by
  refine MetFree.of_bodySF (plainFor_of_name pn_1) hisR ?_
  intro p e s m args below meth c s₁ Bd hml0 hP hK
  obtain ⟨rfl, hZ, hh⟩ := hP
  have hx := Bd.exec
  have hby := Bd.bytes
  have hml : c.maxLocals = 2 := hml0
  have hown : s.vm.findClass "java/lang/String" = some m.cls := findClass_of_methodNamed Bd.named
  have hnm := (name_of_methodNamed Bd.named Bd.method).1
  have X0 : Stand p l e (Rm 5 2 9 74) s m #[(.ref a), (.ref tx)] below meth c s₁ [] 0 0 := Stand.of_body Bd
  have e0 : s₁.heap = h0 := by rw [← hh, Bd.state]; rfl
  have N0 := Fr.nil n0
  obtain ⟨A0, hA0⟩ : ∃ A, A = s₁.setTop (entryFrame m #[(.ref a), (.ref tx)] 2) := ⟨_, rfl⟩
  have G0 : Go p e below A0 (s₁.setTop (mkF m 0 #[.val (.ref a), .val (.ref tx)] [])) := fun tq kq => by rw [hA0]; exact castTop (ef_rmH3 m a tx) kq
  have G1009 : Go p e below A0 (s₁.setTop (mkF m 4 #[.val (.ref a), .val (.ref tx)] [(.ref tx), (.int 0), (.ref tx), (.ref a)])) := fun tq kq => G0 tq (by
    refine XS.aloadN X0.here hx rfl (hb hby d2_0) rfl rfl ?_
    refine XS.aloadN X0.here hx rfl (hb hby d2_1) rfl rfl ?_
    refine XS.iconst X0.here hx rfl (hb hby d2_2) ?_
    refine XS.aloadN X0.here hx rfl (hb hby d2_3) rfl rfl ?_
    exact kq)
  obtain ⟨cl1010, Ar1010, q1010, S1010, M1010, H1010, Gf1010⟩ := id At
  have G1011 : Go p e below A0 (s₁.setTop (mkF m 6 #[.val (.ref a), .val (.ref tx)] [.null, (.int 3), (.int 0), (.ref tx), (.ref a)])) := fun tq kq => G1009 tq (by
    refine X0.arraylength hx (by rw [e0]; exact Ar1010.1) (State.isArrayOf_alike hZ.alike Ar1010.2.1) (g := (mkF m 4 #[.val (.ref a), .val (.ref tx)] [(.ref tx), (.int 0), (.ref tx), (.ref a)])) rfl rfl (hb hby d2_4) _ ?_
    rw [len_of S1010 M1010]
    show Steps p.tables e below (s₁.setTop (mkF m 5 #[.val (.ref a), .val (.ref tx)] [(.int 3), (.int 0), (.ref tx), (.ref a)])) _
    refine XS.aconstNull X0.here hx rfl (hb hby d2_5) ?_
    exact kq)
  obtain ⟨_, _, ⟨T1012, L1012, k1012, n1012⟩, -, X1012, ⟨Lc1012, hQ1012, l1012, y1012, z1012⟩, st1012⟩ := X0.specialBack hx (y := (⟨"java/lang/String", "<init>", "([CIILjava/lang/Void;)V"⟩ : MethodName)) rfl hown (mvT hZ (wd hw 13 rfl)) (mvT hZ (wd hw 14 rfl)) (mvT hZ (wd hw 16 rfl)) (by decide) (backOf (W := 0) (rmJ3 l Z a0 hw [] a tx kt u0 u1 u2 cs fo h0 n0 Z0 E ga Fv0 Fc0 At hta ru0 ru1 ru2 hCS hcs hSF hfo hAD hHI hLO hold) hZ (wd hw 16 rfl) (wd hw 8 rfl) (by decide) (by decide)) (g := (mkF m 6 #[.val (.ref a), .val (.ref tx)] [.null, (.int 3), (.int 0), (.ref tx), (.ref a)])) rfl (by rw [hml]; rfl) (Steps.refl _) (a := a) (argsL := [(.ref tx), (.int 0), (.int 3), .null]) (rest := []) (lenOf pd_16 rfl) rfl (by show 2 * 0 + _ ≤ _; exact Nat.le_of_eq rfl) (hb hby d2_6) (fun _ _ => ⟨rfl, e0, (by decide : 0 + 2 ≤ _), (by decide : 0 + 9 ≤ _)⟩)
  dsimp only [Pt.U, Pt.locs, Pt.cells, Pt.slots] at X1012 l1012 y1012 z1012 st1012 hQ1012
  obtain rfl : k1012 = 2 := y1012
  obtain rfl : n1012 = 9 := z1012
  obtain ⟨rfl, N1012q, K1012, sn1012⟩ := hQ1012
  have N1012 : Fr n0 L1012 := by rw [l1012]; exact Fr.app N0 N1012q
  have G1013 : Go p e below A0 (T1012.setTop (mkF m 9 #[.val (.ref a), .val (.ref tx)] [])) := fun tq kq => G1011 tq (st1012.trans kq)
  obtain ⟨fs, hr, hrun, hended, hW, hsame⟩ := X1012.leave (v := none) (fun _ => rfl)
  refine ⟨_, _, (by rw [← hA0]; exact G1013 _ (X1012.returnOut hx Bd.returns (hb hby d2_9) hr)), hrun, hended, _, _, rfl, ?_, ⟨_, rfl⟩, hW, hsame.mono (by decide) (by decide)⟩
  show Qi3 Z a u0 u1 u2 h0 n0 _ T1012.heap _
  exact ⟨rfl, N1012, ((Keep.refl h0 [a]).trans K1012 (allS (P := fun x => x ∈ [a] ∨ h0.size ≤ x) (Or.inl (List.mem_of_getElem? (i := 0) rfl)) all0)), sn1012⟩
def Qi0 (Z : State) (a : Addr)  (h0 : Heap) (n0 : Nat) (v : Option Value) (h : Heap) (L : List Loc) : Prop := v = none ∧ Fr n0 L ∧ Keep h0 h [a] ∧ Sn0 Z h a 
set_option maxRecDepth 65536 in
set_option maxHeartbeats 40000000 in
theorem rmJ0 (l : Launch) (Z : State) (a0 : Array Value) (hw : ∀ d ∈ tables_1, d.before a0 Z = true) (ws : List Jvm.Cond) (a tx : Addr) (kt : ClassId)  (cs : Int32) (fo : Value) (h0 : Heap) (n0 : Nat) (Z0 : n0 ≤ h0.size) (E : Exa Z h0 a "java/lang/String") (ga : n0 ≤ a) (Fv0 : Fld Z h0 a "java/lang/String" "value" "[B" .null) (Fc0 : Fld Z h0 a "java/lang/String" "coder" "B" (.int 0)) (At : Arv Z h0 tx kt .char (0 : Int32) [] (.int 0)) (hta : tx ≠ a) (hCS : Sta Z Z.heap "java/lang/String" "COMPACT_STRINGS" "Z" (.int cs)) (hcs : ¬ cs = (0 : Int32)) (hSF : Sta Z Z.heap "jdk/internal/util/Preconditions" "SIOOBE_FORMATTER" "Ljava/util/function/BiFunction;" fo) (hfo : fo.isRef = true) (hAD : Sta Z Z.heap "java/lang/StringUTF16" "$assertionsDisabled" "Z" (.int 1)) (hHI : Sta Z Z.heap "java/lang/StringUTF16" "HI_BYTE_SHIFT" "I" (.int 0)) (hLO : Sta Z Z.heap "java/lang/StringUTF16" "LO_BYTE_SHIFT" "I" (.int 8)) (hold : Old Z n0 h0) :
    MetFree l (⟨"java/lang/String", "<init>", "([CIILjava/lang/Void;)V"⟩ : MethodName) (head1 (Jvm.Cond.code (⟨"java/lang/String", "<init>", "([CIILjava/lang/Void;)V"⟩ : MethodName) jdk_42_method_149_code 6 none :: ws) (Rm 1 2 4 12)) (fun aa UU => aa = #[(.ref a), (.ref tx), (.int 0), (.int 0), .null] ∧ Z.Warmed39 UU.vm ∧ UU.heap = h0 ∧ CHv Z consts_1 UU.vm h0) (fun _ _ _ _ _ => True) (fun _ UU oo U' => ∃ v L, oo = .returned v ∧ Qi0 Z a  h0 n0 v U'.heap L ∧ ReturnedEndW UU oo U' L (Rm 1 2 4 12).cells (Rm 1 2 4 12).slots) := by
  refine MetFree.of_bodySF (plainFor_of_name pn_1) hisR ?_
  intro p e s m args below meth c s₁ Bd hml0 hP hK
  obtain ⟨rfl, hZ, hh, hCH⟩ := hP
  have hx := Bd.exec
  have hby := Bd.bytes
  have hml : c.maxLocals = 6 := hml0
  have hown : s.vm.findClass "java/lang/String" = some m.cls := findClass_of_methodNamed Bd.named
  have hnm := (name_of_methodNamed Bd.named Bd.method).1
  have X0 : Stand p l e (Rm 1 2 4 12) s m #[(.ref a), (.ref tx), (.int 0), (.int 0), .null] below meth c s₁ [] 0 0 := Stand.of_body Bd
  have e0 : s₁.heap = h0 := by rw [← hh, Bd.state]; rfl
  have N0 := Fr.nil n0
  obtain ⟨A0, hA0⟩ : ∃ A, A = s₁.setTop (entryFrame m #[(.ref a), (.ref tx), (.int 0), (.int 0), .null] 6) := ⟨_, rfl⟩
  have G0 : Go p e below A0 (s₁.setTop (mkF m 0 #[.val (.ref a), .val (.ref tx), .val (.int 0), .val (.int 0), .val .null, .unset] [])) := fun tq kq => by rw [hA0]; exact castTop (ef_rmJ0 m a tx (0 : Int32) (0 : Int32)) kq
  have hS : s.Since s.vm 0 := (State.WarmedH.refl s).since 0
  have hstr : ∀ d ∈ Bundle.stringAtoms, d.before a0 Z = true := fun d hd => hw d ((by decide +kernel : ∀ d ∈ Bundle.stringAtoms, d ∈ tables_1) d hd)
  have hEL : EW Z a0 consts_1 := EW.cons (text := "") (wd hw 20 rfl) (by decide) EW.nil
  have G1014 : Go p e below A0 (s₁.setTop (mkF m 1 #[.val (.ref a), .val (.ref tx), .val (.int 0), .val (.int 0), .val .null, .unset] [(.ref a)])) := fun tq kq => G0 tq (by
    refine XS.aloadN X0.here hx rfl (hb hby d3_0) rfl rfl ?_
    exact kq)
  obtain ⟨T1015, X1015, e1015, st1015⟩ := initO X0 hx hZ hown (wd hw 17 rfl) (wd hw 18 rfl) (wd hw 19 rfl) e0 (g := (mkF m 1 #[.val (.ref a), .val (.ref tx), .val (.int 0), .val (.int 0), .val .null, .unset] [(.ref a)])) rfl (by rw [hml]; rfl) rfl (hb hby d3_1) (by decide) (W := 0) (by show 2 * 0 + _ ≤ _; exact Nat.le_of_eq rfl) (by decide)
  have G1016 : Go p e below A0 (T1015.setTop (mkF m 4 #[.val (.ref a), .val (.ref tx), .val (.int 0), .val (.int 0), .val .null, .unset] [])) := fun tq kq => G1014 tq (st1015 _ kq)
  have G1017 : Go p e below A0 (T1015.setTop (mkF m 9 #[.val (.ref a), .val (.ref tx), .val (.int 0), .val (.int 0), .val .null, .unset] [(.ref a)])) := fun tq kq => G1016 tq (by
    refine XS.iloadN X1015.here hx rfl (hb hby d3_4) rfl ?_
    refine XS.ifNo X1015.here hx rfl (hb hby d3_5) rfl (by decide) ?_
    refine XS.aloadN X1015.here hx rfl (hb hby d3_8) rfl rfl ?_
    exact kq)
  obtain ⟨a1018, T1018, h1018, k1018, b1018, kb1018, X1018, e1018, E1018, hS, hk1018, hZ, hown, Ea1018, Fc1018, Fv1018, Ab1018, -, -, CH1018, Lt1018, -, st1018⟩ := ldcCH (s := s) (vm0 := s.vm) X1015 hx hZ hown (wd hw 20 rfl) hstr e1015 hS (Nat.zero_le h0.size) hEL (List.mem_of_getElem? (i := 0) rfl) hCH (vs := []) (z := (0 : Int32)) ⟨by decide, by decide⟩ (by decide) (by decide) (g := (mkF m 9 #[.val (.ref a), .val (.ref tx), .val (.int 0), .val (.int 0), .val .null, .unset] [(.ref a)])) rfl (hb hby d3_9) (n := 0) (by decide) (by decide) (by decide) (by decide)
  have G1019 : Go p e below A0 (T1018.setTop (mkF m 11 #[.val (.ref a), .val (.ref tx), .val (.int 0), .val (.int 0), .val .null, .unset] [(.ref a1018), (.ref a)])) := fun tq kq => G1017 tq (st1018 _ kq)
  have f1020 := (Fv0.ext E1018)
  have f1021 := (E.ext E1018)
  have hnl : a ≠ a1018 := own_fldne f1020 Fv1018 (by simp)
  obtain ⟨T1022, X1022, e1022, st1022⟩ := getF X1018 hx hZ hown (host := "") (Or.inl (wd hw 26 rfl)) Via.refl e1018 Fv1018 (g := (mkF m 11 #[.val (.ref a), .val (.ref tx), .val (.int 0), .val (.int 0), .val .null, .unset] [(.ref a1018), (.ref a)])) rfl rfl (hb hby d3_11)
  have G1023 : Go p e below A0 (T1022.setTop (mkF m 14 #[.val (.ref a), .val (.ref tx), .val (.int 0), .val (.int 0), .val .null, .unset] [(.ref b1018), (.ref a)])) := fun tq kq => G1019 tq (st1022 _ kq)
  obtain ⟨T1024, h1024, X1024, e1024, W1024, st1024⟩ := putF X1022 hx hZ hown (host := "") (Or.inl (wd hw 26 rfl)) Via.refl e1022 f1020 f1021 (Or.inr ⟨(wd hw 22 rfl), rfl, hnm⟩) (wd hw 7 rfl) (ty := (.array .byte)) (by decide) rfl rfl (g := (mkF m 14 #[.val (.ref a), .val (.ref tx), .val (.int 0), .val (.int 0), .val .null, .unset] [(.ref b1018), (.ref a)])) rfl rfl (hb hby d3_14)
  have N1024 := Fr.snoc X1024 N0 ga
  have fw1024 := f1020.same W1024
  have G1025 : Go p e below A0 (T1024.setTop (mkF m 17 #[.val (.ref a), .val (.ref tx), .val (.int 0), .val (.int 0), .val .null, .unset] [])) := fun tq kq => G1023 tq (st1024 _ kq)
  have G1026 : Go p e below A0 (T1024.setTop (mkF m 18 #[.val (.ref a), .val (.ref tx), .val (.int 0), .val (.int 0), .val .null, .unset] [(.ref a)])) := fun tq kq => G1025 tq (by
    refine XS.aloadN X1024.here hx rfl (hb hby d3_17) rfl rfl ?_
    exact kq)
  have G1028 : Go p e below A0 (T1024.setTop (mkF m 20 #[.val (.ref a), .val (.ref tx), .val (.int 0), .val (.int 0), .val .null, .unset] [(.ref a1018), (.ref a)])) := fun tq kq => G1026 tq (ldcAgain (s := s) (vm0 := T1018.vm) X1024 hx hZ hown (wd hw 20 rfl) Lt1018 (g := (mkF m 18 #[.val (.ref a), .val (.ref tx), .val (.int 0), .val (.int 0), .val .null, .unset] [(.ref a)])) rfl (hb hby d3_18) _ kq)
  have f1029 := (Fc1018.other W1024 (Or.inl (Ne.symm hnl)))
  obtain ⟨T1030, X1030, e1030, st1030⟩ := getF X1024 hx hZ hown (host := "") (Or.inl (wd hw 27 rfl)) Via.refl e1024 f1029 (g := (mkF m 20 #[.val (.ref a), .val (.ref tx), .val (.int 0), .val (.int 0), .val .null, .unset] [(.ref a1018), (.ref a)])) rfl rfl (hb hby d3_20)
  have G1031 : Go p e below A0 (T1030.setTop (mkF m 23 #[.val (.ref a), .val (.ref tx), .val (.int 0), .val (.int 0), .val .null, .unset] [(.int 0), (.ref a)])) := fun tq kq => G1028 tq (st1030 _ kq)
  have f1032 := (f1021.wr W1024)
  have f1033 := ((Fc0.ext E1018).other W1024 (Or.inr (slot_ne (Or.inr (wd hw 23 rfl)) (Or.inr (wd hw 22 rfl)) (by decide) (t := .byte) (t' := (.array .byte)) (by decide) (by decide))))
  obtain ⟨T1034, h1034, X1034, e1034, W1034, st1034⟩ := putFN X1030 hx hZ hown (wd hw 27 rfl) Via.refl e1030 f1033 f1032 (Or.inr ⟨(wd hw 23 rfl), rfl, hnm⟩) (wd hw 7 rfl) (ty := .byte) (v' := (.int 0)) (by decide) rfl rfl (g := (mkF m 23 #[.val (.ref a), .val (.ref tx), .val (.int 0), .val (.int 0), .val .null, .unset] [(.int 0), (.ref a)])) rfl rfl (hb hby d3_23)
  have N1034 := Fr.snoc X1034 N1024 ga
  have fw1034 := f1033.same W1034
  have G1035 : Go p e below A0 (T1034.setTop (mkF m 26 #[.val (.ref a), .val (.ref tx), .val (.int 0), .val (.int 0), .val .null, .unset] [])) := fun tq kq => G1031 tq (st1034 _ kq)
  have f1036 := (fw1024.other W1034 (Or.inr (slot_ne (Or.inr (wd hw 22 rfl)) (Or.inr (wd hw 23 rfl)) (by decide) (t := (.array .byte)) (t' := .byte) (by decide) (by decide))))
  have f1037 := ((Ab1018.other W1024 (Ne.symm (own_arvne (wd hw 7 rfl) Ab1018 f1021))).other W1034 (Ne.symm (own_arvne (wd hw 7 rfl) Ab1018 f1021)))
  have f1038 := (Nat.le_trans (Nat.le_trans hk1018 (Keep.of_wr W1024).1) (Keep.of_wr W1034).1)
  obtain ⟨fs, hr, hrun, hended, hRW⟩ := X1034.leaveW (s := s) (vm₁ := T1018.vm) hS (by rw [e1034]; exact f1038) (v := none) (fun _ => rfl)
  refine ⟨_, _, (by rw [← hA0]; exact G1035 _ (X1034.returnOut hx Bd.returns (hb hby d3_26) hr)), hrun, hended, _, _, rfl, ?_, hRW.1, hRW.2.1, hRW.2.2.1, hRW.2.2.2.mono (by decide) (by decide)⟩
  show Qi0 Z a  h0 n0 _ T1034.heap _
  rw [e1034]
  exact ⟨rfl, N1034, ((((Keep.refl h0 [a]).ext E1018).wr W1024 (Or.inl (List.mem_of_getElem? (i := 0) rfl))).wr W1034 (Or.inl (List.mem_of_getElem? (i := 0) rfl))), ⟨b1018, kb1018, f1036, trivial, fw1034, f1037⟩⟩
set_option maxRecDepth 65536 in
set_option maxHeartbeats 40000000 in
theorem rmH0 (l : Launch) (Z : State) (a0 : Array Value) (hw : ∀ d ∈ tables_1, d.before a0 Z = true) (ws : List Jvm.Cond) (a tx : Addr) (kt : ClassId)  (cs : Int32) (fo : Value) (h0 : Heap) (n0 : Nat) (Z0 : n0 ≤ h0.size) (E : Exa Z h0 a "java/lang/String") (ga : n0 ≤ a) (Fv0 : Fld Z h0 a "java/lang/String" "value" "[B" .null) (Fc0 : Fld Z h0 a "java/lang/String" "coder" "B" (.int 0)) (At : Arv Z h0 tx kt .char (0 : Int32) [] (.int 0)) (hta : tx ≠ a) (hCS : Sta Z Z.heap "java/lang/String" "COMPACT_STRINGS" "Z" (.int cs)) (hcs : ¬ cs = (0 : Int32)) (hSF : Sta Z Z.heap "jdk/internal/util/Preconditions" "SIOOBE_FORMATTER" "Ljava/util/function/BiFunction;" fo) (hfo : fo.isRef = true) (hAD : Sta Z Z.heap "java/lang/StringUTF16" "$assertionsDisabled" "Z" (.int 1)) (hHI : Sta Z Z.heap "java/lang/StringUTF16" "HI_BYTE_SHIFT" "I" (.int 0)) (hLO : Sta Z Z.heap "java/lang/StringUTF16" "LO_BYTE_SHIFT" "I" (.int 8)) (hold : Old Z n0 h0) :
    MetFree l (⟨"java/lang/String", "<init>", "([C)V"⟩ : MethodName) (head1 (Jvm.Cond.code (⟨"java/lang/String", "<init>", "([C)V"⟩ : MethodName) jdk_42_method_3_code 2 none :: ws) (Rm 2 2 4 29)) (fun aa UU => aa = #[(.ref a), (.ref tx)] ∧ Z.Warmed39 UU.vm ∧ UU.heap = h0 ∧ CHv Z consts_1 UU.vm h0) (fun _ _ _ _ _ => True) (fun _ UU oo U' => ∃ v L, oo = .returned v ∧ Qi0 Z a  h0 n0 v U'.heap L ∧ ReturnedEndW UU oo U' L (Rm 2 2 4 29).cells (Rm 2 2 4 29).slots) := by
  refine MetFree.of_bodySF (plainFor_of_name pn_1) hisR ?_
  intro p e s m args below meth c s₁ Bd hml0 hP hK
  obtain ⟨rfl, hZ, hh, hCH⟩ := hP
  have hx := Bd.exec
  have hby := Bd.bytes
  have hml : c.maxLocals = 2 := hml0
  have hown : s.vm.findClass "java/lang/String" = some m.cls := findClass_of_methodNamed Bd.named
  have hnm := (name_of_methodNamed Bd.named Bd.method).1
  have X0 : Stand p l e (Rm 2 2 4 29) s m #[(.ref a), (.ref tx)] below meth c s₁ [] 0 0 := Stand.of_body Bd
  have e0 : s₁.heap = h0 := by rw [← hh, Bd.state]; rfl
  have N0 := Fr.nil n0
  obtain ⟨A0, hA0⟩ : ∃ A, A = s₁.setTop (entryFrame m #[(.ref a), (.ref tx)] 2) := ⟨_, rfl⟩
  have G0 : Go p e below A0 (s₁.setTop (mkF m 0 #[.val (.ref a), .val (.ref tx)] [])) := fun tq kq => by rw [hA0]; exact castTop (ef_rmH0 m a tx) kq
  have hS : s.Since s.vm 0 := (State.WarmedH.refl s).since 0
  have hstr : ∀ d ∈ Bundle.stringAtoms, d.before a0 Z = true := fun d hd => hw d ((by decide +kernel : ∀ d ∈ Bundle.stringAtoms, d ∈ tables_1) d hd)
  have hEL : EW Z a0 consts_1 := EW.cons (text := "") (wd hw 20 rfl) (by decide) EW.nil
  have G1039 : Go p e below A0 (s₁.setTop (mkF m 4 #[.val (.ref a), .val (.ref tx)] [(.ref tx), (.int 0), (.ref tx), (.ref a)])) := fun tq kq => G0 tq (by
    refine XS.aloadN X0.here hx rfl (hb hby d2_0) rfl rfl ?_
    refine XS.aloadN X0.here hx rfl (hb hby d2_1) rfl rfl ?_
    refine XS.iconst X0.here hx rfl (hb hby d2_2) ?_
    refine XS.aloadN X0.here hx rfl (hb hby d2_3) rfl rfl ?_
    exact kq)
  obtain ⟨cl1040, Ar1040, q1040, S1040, M1040, H1040, Gf1040⟩ := id At
  have G1041 : Go p e below A0 (s₁.setTop (mkF m 6 #[.val (.ref a), .val (.ref tx)] [.null, (.int 0), (.int 0), (.ref tx), (.ref a)])) := fun tq kq => G1039 tq (by
    refine X0.arraylength hx (by rw [e0]; exact Ar1040.1) (State.isArrayOf_alike hZ.alike Ar1040.2.1) (g := (mkF m 4 #[.val (.ref a), .val (.ref tx)] [(.ref tx), (.int 0), (.ref tx), (.ref a)])) rfl rfl (hb hby d2_4) _ ?_
    rw [len_of S1040 M1040]
    show Steps p.tables e below (s₁.setTop (mkF m 5 #[.val (.ref a), .val (.ref tx)] [(.int 0), (.int 0), (.ref tx), (.ref a)])) _
    refine XS.aconstNull X0.here hx rfl (hb hby d2_5) ?_
    exact kq)
  obtain ⟨_, vq1042, ⟨T1042, L1042, k1042, n1042⟩, -, X1042, hS1042, hle1042, ⟨Lc1042, hQ1042, l1042, y1042, z1042⟩, st1042⟩ := Stand.specialBackS (s := s.setVm s.vm) X0 hx (y := (⟨"java/lang/String", "<init>", "([CIILjava/lang/Void;)V"⟩ : MethodName)) rfl hown (mvT hZ (wd hw 13 rfl)) (mvT hZ (wd hw 14 rfl)) (mvT hZ (wd hw 16 rfl)) (by decide) (own_backC (s := s) (vm0 := s.vm) (EL := consts_1) (W := 0) (rmJ0 l Z a0 hw [] a tx kt  cs fo h0 n0 Z0 E ga Fv0 Fc0 At hta  hCS hcs hSF hfo hAD hHI hLO hold) hZ (wd hw 16 rfl) (wd hw 8 rfl) (by decide) (by decide) hEL hCH) (g := (mkF m 6 #[.val (.ref a), .val (.ref tx)] [.null, (.int 0), (.int 0), (.ref tx), (.ref a)])) rfl (by rw [hml]; rfl) (Steps.refl _) (a := a) (argsL := [(.ref tx), (.int 0), (.int 0), .null]) (rest := []) (lenOf pd_16 rfl) rfl (by show 2 * 0 + _ ≤ _; exact Nat.le_of_eq rfl) (hb hby d2_6) (fun _ _ => ⟨rfl, e0, (by decide : 0 + 2 ≤ _), (by decide : 0 + 4 ≤ _)⟩)
  dsimp only [Pt.U, Pt.locs, Pt.cells, Pt.slots] at X1042 l1042 y1042 z1042 st1042 hQ1042 hS1042 hle1042
  obtain rfl : k1042 = 2 := y1042
  obtain rfl : n1042 = 4 := z1042
  have hZ : Z.Warmed39 T1042.vm := State.Warmed39.trans (t := s.setVm s.vm) hZ hS1042.1
  have hown : (s.setVm T1042.vm).vm.findClass "java/lang/String" = some m.cls := by show T1042.vm.findClass _ = _; rw [hS1042.1.alike.findClass]; exact hown
  have hS := hS1042
  obtain ⟨rfl, N1042q, K1042, sn1042⟩ := hQ1042
  have N1042 : Fr n0 L1042 := by rw [l1042]; exact Fr.app N0 N1042q
  have G1043 : Go p e below A0 (T1042.setTop (mkF m 9 #[.val (.ref a), .val (.ref tx)] [])) := fun tq kq => G1041 tq (st1042.trans kq)
  obtain ⟨fs, hr, hrun, hended, hRW⟩ := X1042.leaveW (s := s) (vm₁ := T1042.vm) hS (Nat.le_refl _) (v := none) (fun _ => rfl)
  refine ⟨_, _, (by rw [← hA0]; exact G1043 _ (X1042.returnOut hx Bd.returns (hb hby d2_9) hr)), hrun, hended, _, _, rfl, ?_, hRW.1, hRW.2.1, hRW.2.2.1, hRW.2.2.2.mono (by decide) (by decide)⟩
  show Qi0 Z a  h0 n0 _ T1042.heap _
  exact ⟨rfl, N1042, ((Keep.refl h0 [a]).trans K1042 (allS (P := fun x => x ∈ [a] ∨ h0.size ≤ x) (Or.inl (List.mem_of_getElem? (i := 0) rfl)) all0)), sn1042⟩
set_option maxRecDepth 65536 in
set_option maxHeartbeats 40000000 in
theorem rmCE (l : Launch) (Z : State) (a0 : Array Value) (hw : ∀ d ∈ tables_1, d.before a0 Z = true) (ws : List Jvm.Cond) (uc : Int32) (h0 : Heap) (n0 : Nat) (Z0 : n0 ≤ h0.size) :
    MetFree l (⟨"java/lang/StringLatin1", "canEncode", "(C)Z"⟩ : MethodName) (head1 (Jvm.Cond.code (⟨"java/lang/StringLatin1", "canEncode", "(C)Z"⟩ : MethodName) jdk_43_method_3_code 1 (some .boolean) :: ws) (Rm 0 0 0 0)) (fun aa UU => aa = #[(.int uc)] ∧ Z.Warmed39 UU.vm ∧ UU.heap = h0) (fun _ _ _ _ _ => True) (fun _ UU oo U' => ∃ v L, oo = .returned v ∧ Qr (.int (own_b (¬ (255 : Int32) < uc))) h0 n0 v U'.heap L ∧ FrameEnd UU oo U' L (Rm 0 0 0 0).cells (Rm 0 0 0 0).slots) := by
  refine MetFree.of_bodySF (plainFor_of_name pn_3) hisR ?_
  intro p e s m args below meth c s₁ Bd hml0 hP hK
  obtain ⟨rfl, hZ, hh⟩ := hP
  have hx := Bd.exec
  have hby := Bd.bytes
  have hml : c.maxLocals = 1 := hml0
  have hown : s.vm.findClass "java/lang/StringLatin1" = some m.cls := findClass_of_methodNamed Bd.named
  have hnm := (name_of_methodNamed Bd.named Bd.method).1
  have X0 : Stand p l e (Rm 0 0 0 0) s m #[(.int uc)] below meth c s₁ [] 0 0 := Stand.of_body Bd
  have e0 : s₁.heap = h0 := by rw [← hh, Bd.state]; rfl
  have N0 := Fr.nil n0
  obtain ⟨A0, hA0⟩ : ∃ A, A = s₁.setTop (entryFrame m #[(.int uc)] 1) := ⟨_, rfl⟩
  have G0 : Go p e below A0 (s₁.setTop (mkF m 0 #[.val (.int uc)] [])) := fun tq kq => by rw [hA0]; exact castTop (ef_rmCE m uc) kq
  have G1044 : Go p e below A0 (s₁.setTop (mkF m 4 #[.val (.int uc)] [(.int 255), (.int uc)])) := fun tq kq => G0 tq (by
    refine XS.iloadN X0.here hx rfl (hb hby d21_0) rfl ?_
    refine XS.sipush X0.here hx rfl (hb hby d21_1) ?_
    exact kq)
  by_cases hc1045 : (255 : Int32) < uc
  · have G1046 : Go p e below A0 (s₁.setTop (mkF m 12 #[.val (.int uc)] [(.int 0)])) := fun tq kq => G1044 tq (by
      refine XS.icmpYes X0.here hx rfl (pc0 := 4) (pc' := 11) rfl (hb hby d21_4) rfl (tlt hc1045).2.2.1 (by decide) (by decide) ?_
      refine XS.iconst X0.here hx rfl (hb hby d21_11) ?_
      exact kq)
    obtain ⟨fs, hr, hrun, hended, hW, hsame⟩ := X0.leave (v := some (.int (nar .boolean (0 : Int32)))) (fun h => by rw [Bd.returns] at h; cases h)
    refine ⟨_, _, (by rw [← hA0]; exact G1046 _ (retN X0 hx (t := .boolean) Bd.returns (by simp) (hb hby d21_12) hr)), hrun, hended, _, _, rfl, ?_, ⟨_, rfl⟩, hW, hsame.mono (by decide) (by decide)⟩
    exact ⟨(by rw [show own_b (¬ (255 : Int32) < uc) = (0 : Int32) from by simp only [own_b, hc1045, not_true_eq_false, not_false_eq_true, if_true, if_false, or_true, true_or, or_false, false_or, and_true, true_and, and_false, false_and, and_self, or_self]]; rfl), N0, e0⟩
  · have G1047 : Go p e below A0 (s₁.setTop (mkF m 12 #[.val (.int uc)] [(.int 1)])) := fun tq kq => G1044 tq (by
      refine XS.icmpNo X0.here hx rfl (hb hby d21_4) rfl (flt hc1045).2.2.1 ?_
      refine XS.iconst X0.here hx rfl (hb hby d21_7) ?_
      refine XS.goto X0.here hx rfl (pc0 := 8) (pc' := 12) rfl (hb hby d21_8) (by decide) (by decide) ?_
      exact kq)
    obtain ⟨fs, hr, hrun, hended, hW, hsame⟩ := X0.leave (v := some (.int (nar .boolean (1 : Int32)))) (fun h => by rw [Bd.returns] at h; cases h)
    refine ⟨_, _, (by rw [← hA0]; exact G1047 _ (retN X0 hx (t := .boolean) Bd.returns (by simp) (hb hby d21_12) hr)), hrun, hended, _, _, rfl, ?_, ⟨_, rfl⟩, hW, hsame.mono (by decide) (by decide)⟩
    exact ⟨(by rw [show own_b (¬ (255 : Int32) < uc) = (1 : Int32) from by simp only [own_b, hc1045, not_true_eq_false, not_false_eq_true, if_true, if_false, or_true, true_or, or_false, false_or, and_true, true_and, and_false, false_and, and_self, or_self]]; rfl), N0, e0⟩
def Qbb (Z : State) (a b : Addr) (k : Int32) (h0 : Heap) (n0 : Nat) (v : Option Value) (h : Heap) (L : List Loc) : Prop := v = none ∧ Fr n0 L ∧ Keep h0 h [a] ∧ Fld Z h a "java/lang/String" "value" "[B" (.ref b) ∧ Fld Z h a "java/lang/String" "coder" "B" (.int k)
def Qs1 (Z : State) (u0 : Int32) (h0 : Heap) (n0 : Nat) (v : Option Value) (h : Heap) (L : List Loc) : Prop := ∃ a, v = some (.ref a) ∧ Fr n0 L ∧ Keep h0 h [] ∧ Exa Z h a "java/lang/String" ∧ Sn1 Z h a u0
set_option maxRecDepth 65536 in
set_option maxHeartbeats 40000000 in
theorem rmBB0 (l : Launch) (Z : State) (a0 : Array Value) (hw : ∀ d ∈ tables_1, d.before a0 Z = true) (ws : List Jvm.Cond) (a b : Addr) (cs : Int32) (fo : Value) (h0 : Heap) (n0 : Nat) (Z0 : n0 ≤ h0.size) (E : Exa Z h0 a "java/lang/String") (ga : n0 ≤ a) (Fv0 : Fld Z h0 a "java/lang/String" "value" "[B" .null) (Fc0 : Fld Z h0 a "java/lang/String" "coder" "B" (.int 0)) (hCS : Sta Z Z.heap "java/lang/String" "COMPACT_STRINGS" "Z" (.int cs)) (hcs : ¬ cs = (0 : Int32)) (hSF : Sta Z Z.heap "jdk/internal/util/Preconditions" "SIOOBE_FORMATTER" "Ljava/util/function/BiFunction;" fo) (hfo : fo.isRef = true) (hAD : Sta Z Z.heap "java/lang/StringUTF16" "$assertionsDisabled" "Z" (.int 1)) (hHI : Sta Z Z.heap "java/lang/StringUTF16" "HI_BYTE_SHIFT" "I" (.int 0)) (hLO : Sta Z Z.heap "java/lang/StringUTF16" "LO_BYTE_SHIFT" "I" (.int 8)) (hold : Old Z n0 h0) :
    MetFree l (⟨"java/lang/String", "<init>", "([BB)V"⟩ : MethodName) (head1 (Jvm.Cond.code (⟨"java/lang/String", "<init>", "([BB)V"⟩ : MethodName) jdk_42_method_151_code 3 none :: ws) (Rm 1 0 0 12)) (fun aa UU => aa = #[(.ref a), (.ref b), (.int 0)] ∧ Z.Warmed39 UU.vm ∧ UU.heap = h0) (fun _ _ _ _ _ => True) (fun _ UU oo U' => ∃ v L, oo = .returned v ∧ Qbb Z a b (0 : Int32) h0 n0 v U'.heap L ∧ FrameEnd UU oo U' L (Rm 1 0 0 12).cells (Rm 1 0 0 12).slots) := by
  refine MetFree.of_bodySF (plainFor_of_name pn_1) hisR ?_
  intro p e s m args below meth c s₁ Bd hml0 hP hK
  obtain ⟨rfl, hZ, hh⟩ := hP
  have hx := Bd.exec
  have hby := Bd.bytes
  have hml : c.maxLocals = 3 := hml0
  have hown : s.vm.findClass "java/lang/String" = some m.cls := findClass_of_methodNamed Bd.named
  have hnm := (name_of_methodNamed Bd.named Bd.method).1
  have X0 : Stand p l e (Rm 1 0 0 12) s m #[(.ref a), (.ref b), (.int 0)] below meth c s₁ [] 0 0 := Stand.of_body Bd
  have e0 : s₁.heap = h0 := by rw [← hh, Bd.state]; rfl
  have N0 := Fr.nil n0
  obtain ⟨A0, hA0⟩ : ∃ A, A = s₁.setTop (entryFrame m #[(.ref a), (.ref b), (.int 0)] 3) := ⟨_, rfl⟩
  have G0 : Go p e below A0 (s₁.setTop (mkF m 0 #[.val (.ref a), .val (.ref b), .val (.int 0)] [])) := fun tq kq => by rw [hA0]; exact castTop (ef_rmBB0 m a b (0 : Int32)) kq
  have G1048 : Go p e below A0 (s₁.setTop (mkF m 1 #[.val (.ref a), .val (.ref b), .val (.int 0)] [(.ref a)])) := fun tq kq => G0 tq (by
    refine XS.aloadN X0.here hx rfl (hb hby d23_0) rfl rfl ?_
    exact kq)
  obtain ⟨T1049, X1049, e1049, st1049⟩ := initO X0 hx hZ hown (wd hw 17 rfl) (wd hw 18 rfl) (wd hw 19 rfl) e0 (g := (mkF m 1 #[.val (.ref a), .val (.ref b), .val (.int 0)] [(.ref a)])) rfl (by rw [hml]; rfl) rfl (hb hby d23_1) (by decide) (W := 0) (by show 2 * 0 + _ ≤ _; exact Nat.le_of_eq rfl) (by decide)
  have G1050 : Go p e below A0 (T1049.setTop (mkF m 4 #[.val (.ref a), .val (.ref b), .val (.int 0)] [])) := fun tq kq => G1048 tq (st1049 _ kq)
  have G1051 : Go p e below A0 (T1049.setTop (mkF m 6 #[.val (.ref a), .val (.ref b), .val (.int 0)] [(.ref b), (.ref a)])) := fun tq kq => G1050 tq (by
    refine XS.aloadN X1049.here hx rfl (hb hby d23_4) rfl rfl ?_
    refine XS.aloadN X1049.here hx rfl (hb hby d23_5) rfl rfl ?_
    exact kq)
  obtain ⟨T1052, h1052, X1052, e1052, W1052, st1052⟩ := putF X1049 hx hZ hown (host := "") (Or.inl (wd hw 26 rfl)) Via.refl e1049 Fv0 E (Or.inr ⟨(wd hw 22 rfl), rfl, hnm⟩) (wd hw 7 rfl) (ty := (.array .byte)) (by decide) rfl rfl (g := (mkF m 6 #[.val (.ref a), .val (.ref b), .val (.int 0)] [(.ref b), (.ref a)])) rfl rfl (hb hby d23_6)
  have N1052 := Fr.snoc X1052 N0 ga
  have fw1052 := Fv0.same W1052
  have G1053 : Go p e below A0 (T1052.setTop (mkF m 9 #[.val (.ref a), .val (.ref b), .val (.int 0)] [])) := fun tq kq => G1051 tq (st1052 _ kq)
  have G1054 : Go p e below A0 (T1052.setTop (mkF m 11 #[.val (.ref a), .val (.ref b), .val (.int 0)] [(.int 0), (.ref a)])) := fun tq kq => G1053 tq (by
    refine XS.aloadN X1052.here hx rfl (hb hby d23_9) rfl rfl ?_
    refine XS.iloadN X1052.here hx rfl (hb hby d23_10) rfl ?_
    exact kq)
  have f1055 := (E.wr W1052)
  have f1056 := (Fc0.other W1052 (Or.inr (slot_ne (Or.inr (wd hw 23 rfl)) (Or.inr (wd hw 22 rfl)) (by decide) (t := .byte) (t' := (.array .byte)) (by decide) (by decide))))
  obtain ⟨T1057, h1057, X1057, e1057, W1057, st1057⟩ := putFN X1052 hx hZ hown (wd hw 27 rfl) Via.refl e1052 f1056 f1055 (Or.inr ⟨(wd hw 23 rfl), rfl, hnm⟩) (wd hw 7 rfl) (ty := .byte) (v' := (.int 0)) (by decide) rfl rfl (g := (mkF m 11 #[.val (.ref a), .val (.ref b), .val (.int 0)] [(.int 0), (.ref a)])) rfl rfl (hb hby d23_11)
  have N1057 := Fr.snoc X1057 N1052 ga
  have fw1057 := f1056.same W1057
  have G1058 : Go p e below A0 (T1057.setTop (mkF m 14 #[.val (.ref a), .val (.ref b), .val (.int 0)] [])) := fun tq kq => G1054 tq (st1057 _ kq)
  have f1059 := (fw1052.other W1057 (Or.inr (slot_ne (Or.inr (wd hw 22 rfl)) (Or.inr (wd hw 23 rfl)) (by decide) (t := (.array .byte)) (t' := .byte) (by decide) (by decide))))
  obtain ⟨fs, hr, hrun, hended, hW, hsame⟩ := X1057.leave (v := none) (fun _ => rfl)
  refine ⟨_, _, (by rw [← hA0]; exact G1058 _ (X1057.returnOut hx Bd.returns (hb hby d23_14) hr)), hrun, hended, _, _, rfl, ?_, ⟨_, rfl⟩, hW, hsame.mono (by decide) (by decide)⟩
  show Qbb Z a b (0 : Int32) h0 n0 _ T1057.heap _
  rw [e1057]
  exact ⟨rfl, N1057, (((Keep.refl h0 [a]).wr W1052 (Or.inl (List.mem_of_getElem? (i := 0) rfl))).wr W1057 (Or.inl (List.mem_of_getElem? (i := 0) rfl))), f1059, fw1057⟩
set_option maxRecDepth 65536 in
set_option maxHeartbeats 40000000 in
theorem rmBB1 (l : Launch) (Z : State) (a0 : Array Value) (hw : ∀ d ∈ tables_1, d.before a0 Z = true) (ws : List Jvm.Cond) (a b : Addr) (cs : Int32) (fo : Value) (h0 : Heap) (n0 : Nat) (Z0 : n0 ≤ h0.size) (E : Exa Z h0 a "java/lang/String") (ga : n0 ≤ a) (Fv0 : Fld Z h0 a "java/lang/String" "value" "[B" .null) (Fc0 : Fld Z h0 a "java/lang/String" "coder" "B" (.int 0)) (hCS : Sta Z Z.heap "java/lang/String" "COMPACT_STRINGS" "Z" (.int cs)) (hcs : ¬ cs = (0 : Int32)) (hSF : Sta Z Z.heap "jdk/internal/util/Preconditions" "SIOOBE_FORMATTER" "Ljava/util/function/BiFunction;" fo) (hfo : fo.isRef = true) (hAD : Sta Z Z.heap "java/lang/StringUTF16" "$assertionsDisabled" "Z" (.int 1)) (hHI : Sta Z Z.heap "java/lang/StringUTF16" "HI_BYTE_SHIFT" "I" (.int 0)) (hLO : Sta Z Z.heap "java/lang/StringUTF16" "LO_BYTE_SHIFT" "I" (.int 8)) (hold : Old Z n0 h0) :
    MetFree l (⟨"java/lang/String", "<init>", "([BB)V"⟩ : MethodName) (head1 (Jvm.Cond.code (⟨"java/lang/String", "<init>", "([BB)V"⟩ : MethodName) jdk_42_method_151_code 3 none :: ws) (Rm 1 0 0 12)) (fun aa UU => aa = #[(.ref a), (.ref b), (.int 1)] ∧ Z.Warmed39 UU.vm ∧ UU.heap = h0) (fun _ _ _ _ _ => True) (fun _ UU oo U' => ∃ v L, oo = .returned v ∧ Qbb Z a b (1 : Int32) h0 n0 v U'.heap L ∧ FrameEnd UU oo U' L (Rm 1 0 0 12).cells (Rm 1 0 0 12).slots) := by
  refine MetFree.of_bodySF (plainFor_of_name pn_1) hisR ?_
  intro p e s m args below meth c s₁ Bd hml0 hP hK
  obtain ⟨rfl, hZ, hh⟩ := hP
  have hx := Bd.exec
  have hby := Bd.bytes
  have hml : c.maxLocals = 3 := hml0
  have hown : s.vm.findClass "java/lang/String" = some m.cls := findClass_of_methodNamed Bd.named
  have hnm := (name_of_methodNamed Bd.named Bd.method).1
  have X0 : Stand p l e (Rm 1 0 0 12) s m #[(.ref a), (.ref b), (.int 1)] below meth c s₁ [] 0 0 := Stand.of_body Bd
  have e0 : s₁.heap = h0 := by rw [← hh, Bd.state]; rfl
  have N0 := Fr.nil n0
  obtain ⟨A0, hA0⟩ : ∃ A, A = s₁.setTop (entryFrame m #[(.ref a), (.ref b), (.int 1)] 3) := ⟨_, rfl⟩
  have G0 : Go p e below A0 (s₁.setTop (mkF m 0 #[.val (.ref a), .val (.ref b), .val (.int 1)] [])) := fun tq kq => by rw [hA0]; exact castTop (ef_rmBB1 m a b (1 : Int32)) kq
  have G1060 : Go p e below A0 (s₁.setTop (mkF m 1 #[.val (.ref a), .val (.ref b), .val (.int 1)] [(.ref a)])) := fun tq kq => G0 tq (by
    refine XS.aloadN X0.here hx rfl (hb hby d23_0) rfl rfl ?_
    exact kq)
  obtain ⟨T1061, X1061, e1061, st1061⟩ := initO X0 hx hZ hown (wd hw 17 rfl) (wd hw 18 rfl) (wd hw 19 rfl) e0 (g := (mkF m 1 #[.val (.ref a), .val (.ref b), .val (.int 1)] [(.ref a)])) rfl (by rw [hml]; rfl) rfl (hb hby d23_1) (by decide) (W := 0) (by show 2 * 0 + _ ≤ _; exact Nat.le_of_eq rfl) (by decide)
  have G1062 : Go p e below A0 (T1061.setTop (mkF m 4 #[.val (.ref a), .val (.ref b), .val (.int 1)] [])) := fun tq kq => G1060 tq (st1061 _ kq)
  have G1063 : Go p e below A0 (T1061.setTop (mkF m 6 #[.val (.ref a), .val (.ref b), .val (.int 1)] [(.ref b), (.ref a)])) := fun tq kq => G1062 tq (by
    refine XS.aloadN X1061.here hx rfl (hb hby d23_4) rfl rfl ?_
    refine XS.aloadN X1061.here hx rfl (hb hby d23_5) rfl rfl ?_
    exact kq)
  obtain ⟨T1064, h1064, X1064, e1064, W1064, st1064⟩ := putF X1061 hx hZ hown (host := "") (Or.inl (wd hw 26 rfl)) Via.refl e1061 Fv0 E (Or.inr ⟨(wd hw 22 rfl), rfl, hnm⟩) (wd hw 7 rfl) (ty := (.array .byte)) (by decide) rfl rfl (g := (mkF m 6 #[.val (.ref a), .val (.ref b), .val (.int 1)] [(.ref b), (.ref a)])) rfl rfl (hb hby d23_6)
  have N1064 := Fr.snoc X1064 N0 ga
  have fw1064 := Fv0.same W1064
  have G1065 : Go p e below A0 (T1064.setTop (mkF m 9 #[.val (.ref a), .val (.ref b), .val (.int 1)] [])) := fun tq kq => G1063 tq (st1064 _ kq)
  have G1066 : Go p e below A0 (T1064.setTop (mkF m 11 #[.val (.ref a), .val (.ref b), .val (.int 1)] [(.int 1), (.ref a)])) := fun tq kq => G1065 tq (by
    refine XS.aloadN X1064.here hx rfl (hb hby d23_9) rfl rfl ?_
    refine XS.iloadN X1064.here hx rfl (hb hby d23_10) rfl ?_
    exact kq)
  have f1067 := (E.wr W1064)
  have f1068 := (Fc0.other W1064 (Or.inr (slot_ne (Or.inr (wd hw 23 rfl)) (Or.inr (wd hw 22 rfl)) (by decide) (t := .byte) (t' := (.array .byte)) (by decide) (by decide))))
  obtain ⟨T1069, h1069, X1069, e1069, W1069, st1069⟩ := putFN X1064 hx hZ hown (wd hw 27 rfl) Via.refl e1064 f1068 f1067 (Or.inr ⟨(wd hw 23 rfl), rfl, hnm⟩) (wd hw 7 rfl) (ty := .byte) (v' := (.int 1)) (by decide) rfl rfl (g := (mkF m 11 #[.val (.ref a), .val (.ref b), .val (.int 1)] [(.int 1), (.ref a)])) rfl rfl (hb hby d23_11)
  have N1069 := Fr.snoc X1069 N1064 ga
  have fw1069 := f1068.same W1069
  have G1070 : Go p e below A0 (T1069.setTop (mkF m 14 #[.val (.ref a), .val (.ref b), .val (.int 1)] [])) := fun tq kq => G1066 tq (st1069 _ kq)
  have f1071 := (fw1064.other W1069 (Or.inr (slot_ne (Or.inr (wd hw 22 rfl)) (Or.inr (wd hw 23 rfl)) (by decide) (t := (.array .byte)) (t' := .byte) (by decide) (by decide))))
  obtain ⟨fs, hr, hrun, hended, hW, hsame⟩ := X1069.leave (v := none) (fun _ => rfl)
  refine ⟨_, _, (by rw [← hA0]; exact G1070 _ (X1069.returnOut hx Bd.returns (hb hby d23_14) hr)), hrun, hended, _, _, rfl, ?_, ⟨_, rfl⟩, hW, hsame.mono (by decide) (by decide)⟩
  show Qbb Z a b (1 : Int32) h0 n0 _ T1069.heap _
  rw [e1069]
  exact ⟨rfl, N1069, (((Keep.refl h0 [a]).wr W1064 (Or.inl (List.mem_of_getElem? (i := 0) rfl))).wr W1069 (Or.inl (List.mem_of_getElem? (i := 0) rfl))), f1071, fw1069⟩
set_option maxRecDepth 65536 in
set_option maxHeartbeats 40000000 in
theorem rmVO (l : Launch) (Z : State) (a0 : Array Value) (hw : ∀ d ∈ tables_1, d.before a0 Z = true) (ws : List Jvm.Cond) (uc : Int32) (cs : Int32) (fo : Value) (h0 : Heap) (n0 : Nat) (Z0 : n0 ≤ h0.size) (hCS : Sta Z Z.heap "java/lang/String" "COMPACT_STRINGS" "Z" (.int cs)) (hcs : ¬ cs = (0 : Int32)) (hSF : Sta Z Z.heap "jdk/internal/util/Preconditions" "SIOOBE_FORMATTER" "Ljava/util/function/BiFunction;" fo) (hfo : fo.isRef = true) (hAD : Sta Z Z.heap "java/lang/StringUTF16" "$assertionsDisabled" "Z" (.int 1)) (hHI : Sta Z Z.heap "java/lang/StringUTF16" "HI_BYTE_SHIFT" "I" (.int 0)) (hLO : Sta Z Z.heap "java/lang/StringUTF16" "LO_BYTE_SHIFT" "I" (.int 8)) (hold : Old Z n0 h0) :
    MetFree l (⟨"java/lang/String", "valueOf", "(C)Ljava/lang/String;"⟩ : MethodName) (head1 (Jvm.Cond.code (⟨"java/lang/String", "valueOf", "(C)Ljava/lang/String;"⟩ : MethodName) jdk_42_method_139_code 1 (some (.object "java/lang/String")) :: ws) (Rm 2 2 6 29)) (fun aa UU => aa = #[(.int uc)] ∧ Z.Warmed39 UU.vm ∧ UU.heap = h0) (fun _ _ _ _ _ => True) (fun _ UU oo U' => ∃ v L, oo = .returned v ∧ Qs1 Z uc h0 n0 v U'.heap L ∧ FrameEnd UU oo U' L (Rm 2 2 6 29).cells (Rm 2 2 6 29).slots) := by
  refine MetFree.of_bodySF (plainFor_of_name pn_1) hisR ?_
  intro p e s m args below meth c s₁ Bd hml0 hP hK
  obtain ⟨rfl, hZ, hh⟩ := hP
  have hx := Bd.exec
  have hby := Bd.bytes
  have hml : c.maxLocals = 1 := hml0
  have hown : s.vm.findClass "java/lang/String" = some m.cls := findClass_of_methodNamed Bd.named
  have hnm := (name_of_methodNamed Bd.named Bd.method).1
  have X0 : Stand p l e (Rm 2 2 6 29) s m #[(.int uc)] below meth c s₁ [] 0 0 := Stand.of_body Bd
  have e0 : s₁.heap = h0 := by rw [← hh, Bd.state]; rfl
  have N0 := Fr.nil n0
  obtain ⟨A0, hA0⟩ : ∃ A, A = s₁.setTop (entryFrame m #[(.int uc)] 1) := ⟨_, rfl⟩
  have G0 : Go p e below A0 (s₁.setTop (mkF m 0 #[.val (.int uc)] [])) := fun tq kq => by rw [hA0]; exact castTop (ef_rmVO m uc) kq
  obtain ⟨T1072, X1072, e1072, st1072⟩ := getS2 X0 hx hZ hown (host := "") (Or.inl (wd hw 37 rfl)) Via.refl e0 (hCS.ext hold.2) (g := (mkF m 0 #[.val (.int uc)] [])) rfl (hb hby d20_0)
  have G1073 : Go p e below A0 (T1072.setTop (mkF m 3 #[.val (.int uc)] [(.int cs)])) := fun tq kq => G0 tq (st1072 _ kq)
  have G1074 : Go p e below A0 (T1072.setTop (mkF m 7 #[.val (.int uc)] [(.int uc)])) := fun tq kq => G1073 tq (by
    refine XS.ifNo X1072.here hx rfl (hb hby d20_3) rfl ((if0 _ _).trans (feq hcs).1) ?_
    refine XS.iloadN X1072.here hx rfl (hb hby d20_6) rfl ?_
    exact kq)
  obtain ⟨_, _, ⟨T1075, L1075, k1075, n1075⟩, -, X1075, ⟨Lc1075, hQ1075, l1075, y1075, z1075⟩, st1075⟩ := Jvm.LawKit.callS X1072 hx (y := (⟨"java/lang/StringLatin1", "canEncode", "(C)Z"⟩ : MethodName)) hown (mvT hZ (wd hw 92 rfl)) (mvT hZ (wd hw 93 rfl)) (mvT hZ (wd hw 73 rfl)) (mvT hZ (wd hw 94 rfl)) (by decide) (backOf (W := 0) (rmCE l Z a0 hw [] uc h0 n0 Z0) hZ (wd hw 94 rfl) (wd hw 73 rfl) (by decide) (by decide)) (g := (mkF m 7 #[.val (.int uc)] [(.int uc)])) rfl (by rw [hml]; rfl) (argsL := [(.int uc)]) (rest := []) (lenOf pd_7 rfl) rfl (by show 2 * 0 + _ ≤ _; exact Nat.le_of_eq rfl) (hb hby d20_7) (fun _ _ => ⟨rfl, e1072, (by decide : 0 + 0 ≤ _), (by decide : 0 + 0 ≤ _)⟩)
  dsimp only [Pt.U, Pt.locs, Pt.cells, Pt.slots] at X1075 l1075 y1075 z1075 st1075 hQ1075
  obtain rfl : k1075 = 0 := y1075
  obtain rfl : n1075 = 0 := z1075
  obtain ⟨rfl, N1075q, e1075⟩ := hQ1075
  have N1075 : Fr n0 L1075 := by rw [l1075]; exact Fr.app N0 N1075q
  have G1076 : Go p e below A0 (T1075.setTop (mkF m 10 #[.val (.int uc)] [(.int (own_b (¬ (255 : Int32) < uc)))])) := fun tq kq => G1074 tq (st1075 _ kq)
  by_cases hc1077 : (¬ (255 : Int32) < uc)
  · have G1078 : Go p e below A0 (T1075.setTop (mkF m 13 #[.val (.int uc)] [])) := fun tq kq => G1076 tq (by
      refine XS.ifNo X1075.here hx rfl (hb hby d20_10) rfl ((if0 _ _).trans (feq (own_b1 hc1077)).1) ?_
      exact kq)
    obtain ⟨T1079, h1079, X1079, e1079, E1079, A1079, D1079, -, st1079⟩ := newO X1075 hx hZ hown (wd hw 95 rfl) (wd hw 7 rfl) (wd hw 8 rfl) e1075 (g := (mkF m 13 #[.val (.int uc)] [])) rfl (hb hby d20_13) (by decide) (by decide)
    obtain ⟨b1079, g1079⟩ : ∃ z, z = h0.size := ⟨_, rfl⟩
    rw [← g1079] at A1079 D1079 st1079
    have sz_b1079 : h0.size ≤ b1079 := Nat.le_trans (Nat.le_refl h0.size) (Nat.le_of_eq g1079.symm)
    have g_b1079 : n0 ≤ b1079 := Nat.le_trans Z0 (Nat.le_of_eq g1079.symm)
    have F1079_value : Fld Z h1079 b1079 "java/lang/String" "value" "[B" .null := D1079 (Or.inr (wd hw 22 rfl)) (ty := (.array .byte)) (by decide)
    have F1079_coder : Fld Z h1079 b1079 "java/lang/String" "coder" "B" (.int 0) := D1079 (Or.inr (wd hw 23 rfl)) (ty := .byte) (by decide)
    have G1080 : Go p e below A0 (T1079.setTop (mkF m 16 #[.val (.int uc)] [(.ref b1079)])) := fun tq kq => G1078 tq (st1079 _ kq)
    have G1081 : Go p e below A0 (T1079.setTop (mkF m 18 #[.val (.int uc)] [(.int uc), (.ref b1079), (.ref b1079)])) := fun tq kq => G1080 tq (by
      refine XS.dup X1079.here hx rfl (hb hby d20_16) rfl rfl ?_
      refine XS.iloadN X1079.here hx rfl (hb hby d20_17) rfl ?_
      exact kq)
    have f1083 := (Nat.le_trans Z0 E1079.1)
    have f1084 := (Nat.le_trans (Nat.le_refl h0.size) E1079.1)
    have f1085 := (hold.ext E1079)
    obtain ⟨_, _, ⟨T1082, L1082, k1082, n1082⟩, -, X1082, ⟨Lc1082, hQ1082, l1082, y1082, z1082⟩, st1082⟩ := Jvm.LawKit.callS X1079 hx (y := (⟨"java/lang/StringLatin1", "toBytes", "(C)[B"⟩ : MethodName)) hown (mvT hZ (wd hw 96 rfl)) (mvT hZ (wd hw 97 rfl)) (mvT hZ (wd hw 73 rfl)) (mvT hZ (wd hw 98 rfl)) (by decide) (backOf (W := 2) (rmTC0 l Z a0 hw [] uc cs fo h1079 n0 f1083 hCS hcs hSF hfo hAD hHI hLO f1085) hZ (wd hw 98 rfl) (wd hw 73 rfl) (by decide) (by decide)) (g := (mkF m 18 #[.val (.int uc)] [(.int uc), (.ref b1079), (.ref b1079)])) rfl (by rw [hml]; rfl) (argsL := [(.int uc)]) (rest := [(.ref b1079), (.ref b1079)]) (lenOf pd_17 rfl) rfl (by show 2 * 0 + _ ≤ _; exact Nat.le_of_eq rfl) (hb hby d20_18) (fun _ _ => ⟨rfl, e1079, (by decide : 1 + 1 ≤ _), (by decide : 4 + 1 ≤ _)⟩)
    dsimp only [Pt.U, Pt.locs, Pt.cells, Pt.slots] at X1082 l1082 y1082 z1082 st1082 hQ1082
    obtain rfl : k1082 = 2 := y1082
    obtain rfl : n1082 = 5 := z1082
    obtain ⟨bb1082, kk1082, rfl, N1082q, K1082, hs1082, hg1082, Ab1082⟩ := hQ1082
    have N1082 : Fr n0 L1082 := by rw [l1082]; exact Fr.app N1075 N1082q
    have lt_b1079_bb1082 : b1079 < bb1082 := Nat.lt_of_lt_of_le A1079.lt hs1082
    have sz_bb1082 : h0.size ≤ bb1082 := Nat.le_trans f1084 hs1082
    have G1086 : Go p e below A0 (T1082.setTop (mkF m 21 #[.val (.int uc)] [(.ref bb1082), (.ref b1079), (.ref b1079)])) := fun tq kq => G1081 tq (st1082 _ kq)
    have G1087 : Go p e below A0 (T1082.setTop (mkF m 22 #[.val (.int uc)] [(.int 0), (.ref bb1082), (.ref b1079), (.ref b1079)])) := fun tq kq => G1086 tq (by
      refine XS.iconst X1082.here hx rfl (hb hby d20_21) ?_
      exact kq)
    have f1089 := (Nat.le_trans f1083 K1082.1)
    have f1090 := (A1079.keep K1082)
    have f1091 := (F1079_value.keep K1082 nin0)
    have f1092 := (F1079_coder.keep K1082 nin0)
    have f1093 := (f1085.keep K1082 all0)
    obtain ⟨_, _, ⟨T1088, L1088, k1088, n1088⟩, -, X1088, ⟨Lc1088, hQ1088, l1088, y1088, z1088⟩, st1088⟩ := X1082.specialBack hx (y := (⟨"java/lang/String", "<init>", "([BB)V"⟩ : MethodName)) rfl hown (mvT hZ (wd hw 99 rfl)) (mvT hZ (wd hw 100 rfl)) (mvT hZ (wd hw 101 rfl)) (by decide) (backOf (W := 1) (rmBB0 l Z a0 hw [] b1079 bb1082 cs fo T1082.heap n0 f1089 f1090 g_b1079 f1091 f1092 hCS hcs hSF hfo hAD hHI hLO f1093) hZ (wd hw 101 rfl) (wd hw 8 rfl) (by decide) (by decide)) (g := (mkF m 22 #[.val (.int uc)] [(.int 0), (.ref bb1082), (.ref b1079), (.ref b1079)])) rfl (by rw [hml]; rfl) (Steps.refl _) (a := b1079) (argsL := [(.ref bb1082), (.int 0)]) (rest := [(.ref b1079)]) (lenOf pd_18 rfl) rfl (by show 2 * 0 + _ ≤ _; exact Nat.le_of_eq rfl) (hb hby d20_22) (fun _ _ => ⟨rfl, rfl, (by decide : 2 + 0 ≤ _), (by decide : 5 + 0 ≤ _)⟩)
    dsimp only [Pt.U, Pt.locs, Pt.cells, Pt.slots] at X1088 l1088 y1088 z1088 st1088 hQ1088
    obtain rfl : k1088 = 2 := y1088
    obtain rfl : n1088 = 5 := z1088
    obtain ⟨rfl, N1088q, K1088, Fv1088, Fc1088⟩ := hQ1088
    have N1088 : Fr n0 L1088 := by rw [l1088]; exact Fr.app N1082 N1088q
    have G1094 : Go p e below A0 (T1088.setTop (mkF m 25 #[.val (.int uc)] [(.ref b1079)])) := fun tq kq => G1087 tq (st1088.trans kq)
    have f1095 := (Ab1082.keep K1088 (ninS (Ne.symm (Nat.ne_of_lt lt_b1079_bb1082)) nin0))
    have f1096 := (f1090.keep K1088)
    obtain ⟨fs, hr, hrun, hended, hW, hsame⟩ := X1088.leave (v := some (.ref b1079)) (fun h => by rw [Bd.returns] at h; cases h)
    refine ⟨_, _, (by rw [← hA0]; exact G1094 _ (retOut X1088 hx (t := (.object "java/lang/String")) Bd.returns rfl (Or.inr (Or.inr (Or.inr (Or.inr ⟨rfl, rfl, rfl⟩)))) (hb hby d20_25) hr)), hrun, hended, _, _, rfl, ?_, ⟨_, rfl⟩, hW, hsame.mono (by decide) (by decide)⟩
    show Qs1 Z uc h0 n0 _ T1088.heap _
    exact ⟨b1079, rfl, N1088, ((((Keep.refl h0 []).ext E1079).trans K1082 all0).trans K1088 (allS (P := fun x => x ∈ [] ∨ h0.size ≤ x) (Or.inr sz_b1079) all0)), f1096, ⟨bb1082, kk1082, Fv1088, Or.inl ⟨hc1077, Fc1088, (Af.of f1095).fn (own_cL1 uc)⟩⟩⟩
  · have G1097 : Go p e below A0 (T1075.setTop (mkF m 26 #[.val (.int uc)] [])) := fun tq kq => G1076 tq (by
      refine XS.ifYes X1075.here hx rfl (pc0 := 10) (pc' := 26) rfl (hb hby d20_10) rfl ((if0 _ _).trans (teq (own_b0 hc1077)).1) (by decide) (by decide) ?_
      exact kq)
    obtain ⟨T1098, h1098, X1098, e1098, E1098, A1098, D1098, -, st1098⟩ := newO X1075 hx hZ hown (wd hw 95 rfl) (wd hw 7 rfl) (wd hw 8 rfl) e1075 (g := (mkF m 26 #[.val (.int uc)] [])) rfl (hb hby d20_26) (by decide) (by decide)
    obtain ⟨b1098, g1098⟩ : ∃ z, z = h0.size := ⟨_, rfl⟩
    rw [← g1098] at A1098 D1098 st1098
    have sz_b1098 : h0.size ≤ b1098 := Nat.le_trans (Nat.le_refl h0.size) (Nat.le_of_eq g1098.symm)
    have g_b1098 : n0 ≤ b1098 := Nat.le_trans Z0 (Nat.le_of_eq g1098.symm)
    have F1098_value : Fld Z h1098 b1098 "java/lang/String" "value" "[B" .null := D1098 (Or.inr (wd hw 22 rfl)) (ty := (.array .byte)) (by decide)
    have F1098_coder : Fld Z h1098 b1098 "java/lang/String" "coder" "B" (.int 0) := D1098 (Or.inr (wd hw 23 rfl)) (ty := .byte) (by decide)
    have G1099 : Go p e below A0 (T1098.setTop (mkF m 29 #[.val (.int uc)] [(.ref b1098)])) := fun tq kq => G1097 tq (st1098 _ kq)
    have G1100 : Go p e below A0 (T1098.setTop (mkF m 31 #[.val (.int uc)] [(.int uc), (.ref b1098), (.ref b1098)])) := fun tq kq => G1099 tq (by
      refine XS.dup X1098.here hx rfl (hb hby d20_29) rfl rfl ?_
      refine XS.iloadN X1098.here hx rfl (hb hby d20_30) rfl ?_
      exact kq)
    have f1102 := (Nat.le_trans Z0 E1098.1)
    have f1103 := (Nat.le_trans (Nat.le_refl h0.size) E1098.1)
    have f1104 := (hold.ext E1098)
    obtain ⟨_, _, ⟨T1101, L1101, k1101, n1101⟩, -, X1101, ⟨Lc1101, hQ1101, l1101, y1101, z1101⟩, st1101⟩ := Jvm.LawKit.callS X1098 hx (y := (⟨"java/lang/StringUTF16", "toBytes", "(C)[B"⟩ : MethodName)) hown (mvT hZ (wd hw 131 rfl)) (mvT hZ (wd hw 132 rfl)) (mvT hZ (wd hw 40 rfl)) (mvT hZ (wd hw 133 rfl)) (by decide) (backOf (W := 2) (rmTC1 l Z a0 hw [] uc cs fo h1098 n0 f1102 hCS hcs hSF hfo hAD hHI hLO f1104) hZ (wd hw 133 rfl) (wd hw 40 rfl) (by decide) (by decide)) (g := (mkF m 31 #[.val (.int uc)] [(.int uc), (.ref b1098), (.ref b1098)])) rfl (by rw [hml]; rfl) (argsL := [(.int uc)]) (rest := [(.ref b1098), (.ref b1098)]) (lenOf pd_17 rfl) rfl (by show 2 * 0 + _ ≤ _; exact Nat.le_of_eq rfl) (hb hby d20_31) (fun _ _ => ⟨rfl, e1098, (by decide : 1 + 1 ≤ _), (by decide : 4 + 2 ≤ _)⟩)
    dsimp only [Pt.U, Pt.locs, Pt.cells, Pt.slots] at X1101 l1101 y1101 z1101 st1101 hQ1101
    obtain rfl : k1101 = 2 := y1101
    obtain rfl : n1101 = 6 := z1101
    obtain ⟨bb1101, kk1101, rfl, N1101q, K1101, hs1101, hg1101, Ab1101⟩ := hQ1101
    have N1101 : Fr n0 L1101 := by rw [l1101]; exact Fr.app N1075 N1101q
    have lt_b1098_bb1101 : b1098 < bb1101 := Nat.lt_of_lt_of_le A1098.lt hs1101
    have sz_bb1101 : h0.size ≤ bb1101 := Nat.le_trans f1103 hs1101
    have G1105 : Go p e below A0 (T1101.setTop (mkF m 34 #[.val (.int uc)] [(.ref bb1101), (.ref b1098), (.ref b1098)])) := fun tq kq => G1100 tq (st1101 _ kq)
    have G1106 : Go p e below A0 (T1101.setTop (mkF m 35 #[.val (.int uc)] [(.int 1), (.ref bb1101), (.ref b1098), (.ref b1098)])) := fun tq kq => G1105 tq (by
      refine XS.iconst X1101.here hx rfl (hb hby d20_34) ?_
      exact kq)
    have f1108 := (Nat.le_trans f1102 K1101.1)
    have f1109 := (A1098.keep K1101)
    have f1110 := (F1098_value.keep K1101 nin0)
    have f1111 := (F1098_coder.keep K1101 nin0)
    have f1112 := (f1104.keep K1101 all0)
    obtain ⟨_, _, ⟨T1107, L1107, k1107, n1107⟩, -, X1107, ⟨Lc1107, hQ1107, l1107, y1107, z1107⟩, st1107⟩ := X1101.specialBack hx (y := (⟨"java/lang/String", "<init>", "([BB)V"⟩ : MethodName)) rfl hown (mvT hZ (wd hw 99 rfl)) (mvT hZ (wd hw 100 rfl)) (mvT hZ (wd hw 101 rfl)) (by decide) (backOf (W := 1) (rmBB1 l Z a0 hw [] b1098 bb1101 cs fo T1101.heap n0 f1108 f1109 g_b1098 f1110 f1111 hCS hcs hSF hfo hAD hHI hLO f1112) hZ (wd hw 101 rfl) (wd hw 8 rfl) (by decide) (by decide)) (g := (mkF m 35 #[.val (.int uc)] [(.int 1), (.ref bb1101), (.ref b1098), (.ref b1098)])) rfl (by rw [hml]; rfl) (Steps.refl _) (a := b1098) (argsL := [(.ref bb1101), (.int 1)]) (rest := [(.ref b1098)]) (lenOf pd_18 rfl) rfl (by show 2 * 0 + _ ≤ _; exact Nat.le_of_eq rfl) (hb hby d20_35) (fun _ _ => ⟨rfl, rfl, (by decide : 2 + 0 ≤ _), (by decide : 6 + 0 ≤ _)⟩)
    dsimp only [Pt.U, Pt.locs, Pt.cells, Pt.slots] at X1107 l1107 y1107 z1107 st1107 hQ1107
    obtain rfl : k1107 = 2 := y1107
    obtain rfl : n1107 = 6 := z1107
    obtain ⟨rfl, N1107q, K1107, Fv1107, Fc1107⟩ := hQ1107
    have N1107 : Fr n0 L1107 := by rw [l1107]; exact Fr.app N1101 N1107q
    have G1113 : Go p e below A0 (T1107.setTop (mkF m 38 #[.val (.int uc)] [(.ref b1098)])) := fun tq kq => G1106 tq (st1107.trans kq)
    have f1114 := (Ab1101.keep K1107 (ninS (Ne.symm (Nat.ne_of_lt lt_b1098_bb1101)) nin0))
    have f1115 := (f1109.keep K1107)
    obtain ⟨fs, hr, hrun, hended, hW, hsame⟩ := X1107.leave (v := some (.ref b1098)) (fun h => by rw [Bd.returns] at h; cases h)
    refine ⟨_, _, (by rw [← hA0]; exact G1113 _ (retOut X1107 hx (t := (.object "java/lang/String")) Bd.returns rfl (Or.inr (Or.inr (Or.inr (Or.inr ⟨rfl, rfl, rfl⟩)))) (hb hby d20_38) hr)), hrun, hended, _, _, rfl, ?_, ⟨_, rfl⟩, hW, hsame.mono (by decide) (by decide)⟩
    show Qs1 Z uc h0 n0 _ T1107.heap _
    exact ⟨b1098, rfl, N1107, ((((Keep.refl h0 []).ext E1098).trans K1101 all0).trans K1107 (allS (P := fun x => x ∈ [] ∨ h0.size ≤ x) (Or.inr sz_b1098) all0)), f1115, ⟨bb1101, kk1101, Fv1107, Or.inr ⟨Fc1107, (Af.of f1114).fn (own_cU1 uc)⟩⟩⟩
def Q0c (n0 : Nat) (v : Option Value) (L : List Loc) : Prop := v = some (.int 1) ∧ Fr n0 L
set_option maxRecDepth 65536 in
set_option maxHeartbeats 40000000 in
theorem rm0 (l : Launch) (Z : State) (a0 : Array Value) (hw : ∀ d ∈ tables_1, d.before a0 Z = true) (ws : List Jvm.Cond) (p0 p1 p2 p3 : Int32) (cs : Int32) (fo : Value) (h0 : Heap) (n0 : Nat) (Z0 : n0 ≤ h0.size) (hCS : Sta Z Z.heap "java/lang/String" "COMPACT_STRINGS" "Z" (.int cs)) (hcs : ¬ cs = (0 : Int32)) (hSF : Sta Z Z.heap "jdk/internal/util/Preconditions" "SIOOBE_FORMATTER" "Ljava/util/function/BiFunction;" fo) (hfo : fo.isRef = true) (hAD : Sta Z Z.heap "java/lang/StringUTF16" "$assertionsDisabled" "Z" (.int 1)) (hHI : Sta Z Z.heap "java/lang/StringUTF16" "HI_BYTE_SHIFT" "I" (.int 0)) (hLO : Sta Z Z.heap "java/lang/StringUTF16" "LO_BYTE_SHIFT" "I" (.int 8)) (hold : Old Z n0 h0) :
    MetFree l x (head1 (Jvm.Cond.code x code maxLocals ret :: ws) room_1) (fun aa UU => aa = #[(.int p0), (.int p1), (.int p2), (.int p3)] ∧ Z.Warmed39 UU.vm ∧ UU.heap = h0 ∧ CHv Z consts_1 UU.vm h0) (fun _ _ _ _ _ => True) (fun _ UU oo U' => ∃ v L, oo = .returned v ∧ Q0c n0 v L ∧ ReturnedEndW UU oo U' L room_1.cells room_1.slots) := by
  refine MetFree.of_bodySF (plainFor_of_name pn_5) hisR ?_
  intro p e s m args below meth c s₁ Bd hml0 hP hK
  obtain ⟨rfl, hZ, hh, hCH⟩ := hP
  have hx := Bd.exec
  have hby := Bd.bytes
  have hml : c.maxLocals = 10 := hml0
  have hown : s.vm.findClass "com/example/role_delegation/roledelegation/NamesIsValidPinLaw" = some m.cls := findClass_of_methodNamed Bd.named
  have hnm := (name_of_methodNamed Bd.named Bd.method).1
  have X0 : Stand p l e room_1 s m #[(.int p0), (.int p1), (.int p2), (.int p3)] below meth c s₁ [] 0 0 := Stand.of_body Bd
  have e0 : s₁.heap = h0 := by rw [← hh, Bd.state]; rfl
  have N0 := Fr.nil n0
  obtain ⟨A0, hA0⟩ : ∃ A, A = s₁.setTop (entryFrame m #[(.int p0), (.int p1), (.int p2), (.int p3)] maxLocals) := ⟨_, rfl⟩
  have G0 : Go p e below A0 (s₁.setTop (mkF m 0 #[.val (.int p0), .val (.int p1), .val (.int p2), .val (.int p3), .unset, .unset, .unset, .unset, .unset, .unset] [])) := fun tq kq => by rw [hA0]; exact castTop (ef_rm0 m p0 p1 p2 p3) kq
  have hS : s.Since s.vm 0 := (State.WarmedH.refl s).since 0
  have hstr : ∀ d ∈ Bundle.stringAtoms, d.before a0 Z = true := fun d hd => hw d ((by decide +kernel : ∀ d ∈ Bundle.stringAtoms, d ∈ tables_1) d hd)
  have hEL : EW Z a0 consts_1 := EW.cons (text := "") (wd hw 20 rfl) (by decide) EW.nil
  have G1116 : Go p e below A0 (s₁.setTop (mkF m 6 #[.val (.int p0), .val (.int p1), .val (.int p2), .val (.int p3), .val (.int (p0 &&& (3 : Int32))), .unset, .unset, .unset, .unset, .unset] [(.int p1)])) := fun tq kq => G0 tq (by
    refine XS.iloadN X0.here hx rfl (hb hby at_0) rfl ?_
    refine XS.iconst X0.here hx rfl (hb hby at_1) ?_
    refine XS.iand X0.here hx rfl (hb hby at_2) rfl ?_
    refine XS.istore X0.here hx rfl (hb hby at_3) rfl (l' := #[.val (.int p0), .val (.int p1), .val (.int p2), .val (.int p3), .val (.int (p0 &&& (3 : Int32))), .unset, .unset, .unset, .unset, .unset]) rfl ?_
    refine XS.iloadN X0.here hx rfl (hb hby at_5) rfl ?_
    exact kq)
  obtain ⟨u0, eu0⟩ : ∃ q, q = own_dr p1 := ⟨_, rfl⟩
  have ru0 := own_drR eu0
  obtain ⟨_, _, ⟨T1117, L1117, k1117, n1117⟩, -, X1117, ⟨Lc1117, hQ1117, l1117, y1117, z1117⟩, st1117⟩ := Jvm.LawKit.callS X0 hx (y := (⟨"com/example/role_delegation/roledelegation/NamesIsValidPinLaw", "draw", "(I)C"⟩ : MethodName)) hown (mvT hZ (wd hw 0 rfl)) (mvT hZ (wd hw 1 rfl)) (mvT hZ (wd hw 2 rfl)) (mvT hZ (wd hw 3 rfl)) (by decide) (backOf (W := 0) (rmDR l Z a0 hw [] p1 u0 h0 n0 Z0 eu0) hZ (wd hw 3 rfl) (wd hw 2 rfl) (by decide) (by decide)) (g := (mkF m 6 #[.val (.int p0), .val (.int p1), .val (.int p2), .val (.int p3), .val (.int (p0 &&& (3 : Int32))), .unset, .unset, .unset, .unset, .unset] [(.int p1)])) rfl (by rw [hml]; rfl) (argsL := [(.int p1)]) (rest := []) (lenOf pd_9 rfl) rfl (by show 2 * 0 + _ ≤ _; exact Nat.le_of_eq rfl) (hb hby at_6) (fun _ _ => ⟨rfl, e0, (by decide : 0 + 0 ≤ _), (by decide : 0 + 0 ≤ _)⟩)
  dsimp only [Pt.U, Pt.locs, Pt.cells, Pt.slots] at X1117 l1117 y1117 z1117 st1117 hQ1117
  obtain rfl : k1117 = 0 := y1117
  obtain rfl : n1117 = 0 := z1117
  obtain ⟨rfl, N1117q, e1117⟩ := hQ1117
  have N1117 : Fr n0 L1117 := by rw [l1117]; exact Fr.app N0 N1117q
  have G1118 : Go p e below A0 (T1117.setTop (mkF m 9 #[.val (.int p0), .val (.int p1), .val (.int p2), .val (.int p3), .val (.int (p0 &&& (3 : Int32))), .unset, .unset, .unset, .unset, .unset] [(.int u0)])) := fun tq kq => G1116 tq (st1117 _ kq)
  have G1119 : Go p e below A0 (T1117.setTop (mkF m 12 #[.val (.int p0), .val (.int p1), .val (.int p2), .val (.int p3), .val (.int (p0 &&& (3 : Int32))), .val (.int u0), .unset, .unset, .unset, .unset] [(.int p2)])) := fun tq kq => G1118 tq (by
    refine XS.istore X1117.here hx rfl (hb hby at_9) rfl (l' := #[.val (.int p0), .val (.int p1), .val (.int p2), .val (.int p3), .val (.int (p0 &&& (3 : Int32))), .val (.int u0), .unset, .unset, .unset, .unset]) rfl ?_
    refine XS.iloadN X1117.here hx rfl (hb hby at_11) rfl ?_
    exact kq)
  obtain ⟨u1, eu1⟩ : ∃ q, q = own_dr p2 := ⟨_, rfl⟩
  have ru1 := own_drR eu1
  obtain ⟨_, _, ⟨T1120, L1120, k1120, n1120⟩, -, X1120, ⟨Lc1120, hQ1120, l1120, y1120, z1120⟩, st1120⟩ := Jvm.LawKit.callS X1117 hx (y := (⟨"com/example/role_delegation/roledelegation/NamesIsValidPinLaw", "draw", "(I)C"⟩ : MethodName)) hown (mvT hZ (wd hw 0 rfl)) (mvT hZ (wd hw 1 rfl)) (mvT hZ (wd hw 2 rfl)) (mvT hZ (wd hw 3 rfl)) (by decide) (backOf (W := 0) (rmDR l Z a0 hw [] p2 u1 h0 n0 Z0 eu1) hZ (wd hw 3 rfl) (wd hw 2 rfl) (by decide) (by decide)) (g := (mkF m 12 #[.val (.int p0), .val (.int p1), .val (.int p2), .val (.int p3), .val (.int (p0 &&& (3 : Int32))), .val (.int u0), .unset, .unset, .unset, .unset] [(.int p2)])) rfl (by rw [hml]; rfl) (argsL := [(.int p2)]) (rest := []) (lenOf pd_9 rfl) rfl (by show 2 * 0 + _ ≤ _; exact Nat.le_of_eq rfl) (hb hby at_12) (fun _ _ => ⟨rfl, e1117, (by decide : 0 + 0 ≤ _), (by decide : 0 + 0 ≤ _)⟩)
  dsimp only [Pt.U, Pt.locs, Pt.cells, Pt.slots] at X1120 l1120 y1120 z1120 st1120 hQ1120
  obtain rfl : k1120 = 0 := y1120
  obtain rfl : n1120 = 0 := z1120
  obtain ⟨rfl, N1120q, e1120⟩ := hQ1120
  have N1120 : Fr n0 L1120 := by rw [l1120]; exact Fr.app N1117 N1120q
  have G1121 : Go p e below A0 (T1120.setTop (mkF m 15 #[.val (.int p0), .val (.int p1), .val (.int p2), .val (.int p3), .val (.int (p0 &&& (3 : Int32))), .val (.int u0), .unset, .unset, .unset, .unset] [(.int u1)])) := fun tq kq => G1119 tq (st1120 _ kq)
  have G1122 : Go p e below A0 (T1120.setTop (mkF m 18 #[.val (.int p0), .val (.int p1), .val (.int p2), .val (.int p3), .val (.int (p0 &&& (3 : Int32))), .val (.int u0), .val (.int u1), .unset, .unset, .unset] [(.int p3)])) := fun tq kq => G1121 tq (by
    refine XS.istore X1120.here hx rfl (hb hby at_15) rfl (l' := #[.val (.int p0), .val (.int p1), .val (.int p2), .val (.int p3), .val (.int (p0 &&& (3 : Int32))), .val (.int u0), .val (.int u1), .unset, .unset, .unset]) rfl ?_
    refine XS.iloadN X1120.here hx rfl (hb hby at_17) rfl ?_
    exact kq)
  obtain ⟨u2, eu2⟩ : ∃ q, q = own_dr p3 := ⟨_, rfl⟩
  have ru2 := own_drR eu2
  obtain ⟨_, _, ⟨T1123, L1123, k1123, n1123⟩, -, X1123, ⟨Lc1123, hQ1123, l1123, y1123, z1123⟩, st1123⟩ := Jvm.LawKit.callS X1120 hx (y := (⟨"com/example/role_delegation/roledelegation/NamesIsValidPinLaw", "draw", "(I)C"⟩ : MethodName)) hown (mvT hZ (wd hw 0 rfl)) (mvT hZ (wd hw 1 rfl)) (mvT hZ (wd hw 2 rfl)) (mvT hZ (wd hw 3 rfl)) (by decide) (backOf (W := 0) (rmDR l Z a0 hw [] p3 u2 h0 n0 Z0 eu2) hZ (wd hw 3 rfl) (wd hw 2 rfl) (by decide) (by decide)) (g := (mkF m 18 #[.val (.int p0), .val (.int p1), .val (.int p2), .val (.int p3), .val (.int (p0 &&& (3 : Int32))), .val (.int u0), .val (.int u1), .unset, .unset, .unset] [(.int p3)])) rfl (by rw [hml]; rfl) (argsL := [(.int p3)]) (rest := []) (lenOf pd_9 rfl) rfl (by show 2 * 0 + _ ≤ _; exact Nat.le_of_eq rfl) (hb hby at_18) (fun _ _ => ⟨rfl, e1120, (by decide : 0 + 0 ≤ _), (by decide : 0 + 0 ≤ _)⟩)
  dsimp only [Pt.U, Pt.locs, Pt.cells, Pt.slots] at X1123 l1123 y1123 z1123 st1123 hQ1123
  obtain rfl : k1123 = 0 := y1123
  obtain rfl : n1123 = 0 := z1123
  obtain ⟨rfl, N1123q, e1123⟩ := hQ1123
  have N1123 : Fr n0 L1123 := by rw [l1123]; exact Fr.app N1120 N1123q
  have G1124 : Go p e below A0 (T1123.setTop (mkF m 21 #[.val (.int p0), .val (.int p1), .val (.int p2), .val (.int p3), .val (.int (p0 &&& (3 : Int32))), .val (.int u0), .val (.int u1), .unset, .unset, .unset] [(.int u2)])) := fun tq kq => G1122 tq (st1123 _ kq)
  have G1125 : Go p e below A0 (T1123.setTop (mkF m 23 #[.val (.int p0), .val (.int p1), .val (.int p2), .val (.int p3), .val (.int (p0 &&& (3 : Int32))), .val (.int u0), .val (.int u1), .val (.int u2), .unset, .unset] [])) := fun tq kq => G1124 tq (by
    refine XS.istore X1123.here hx rfl (hb hby at_21) rfl (l' := #[.val (.int p0), .val (.int p1), .val (.int p2), .val (.int p3), .val (.int (p0 &&& (3 : Int32))), .val (.int u0), .val (.int u1), .val (.int u2), .unset, .unset]) rfl ?_
    exact kq)
  rcases own_three p0 with hk | hk | hk | hk
  · have G1126 : Go p e below A0 (T1123.setTop (mkF m 23 #[.val (.int p0), .val (.int p1), .val (.int p2), .val (.int p3), .val (.int 0), .val (.int u0), .val (.int u1), .val (.int u2), .unset, .unset] [])) := fun tq kq => G1125 tq (by rw [hk]; exact kq)
    have G1127 : Go p e below A0 (T1123.setTop (mkF m 28 #[.val (.int p0), .val (.int p1), .val (.int p2), .val (.int p3), .val (.int 0), .val (.int u0), .val (.int u1), .val (.int u2), .unset, .unset] [])) := fun tq kq => G1126 tq (by
      refine XS.iload X1123.here hx rfl (hb hby at_23) rfl ?_
      refine XS.ifNo X1123.here hx rfl (hb hby at_25) rfl (by decide) ?_
      exact kq)
    obtain ⟨T1128, h1128, X1128, e1128, E1128, A1128, D1128, -, st1128⟩ := newO X1123 hx hZ hown (wd hw 6 rfl) (wd hw 7 rfl) (wd hw 8 rfl) e1123 (g := (mkF m 28 #[.val (.int p0), .val (.int p1), .val (.int p2), .val (.int p3), .val (.int 0), .val (.int u0), .val (.int u1), .val (.int u2), .unset, .unset] [])) rfl (hb hby at_28) (by decide) (by decide)
    obtain ⟨b1128, g1128⟩ : ∃ z, z = h0.size := ⟨_, rfl⟩
    rw [← g1128] at A1128 D1128 st1128
    have sz_b1128 : h0.size ≤ b1128 := Nat.le_trans (Nat.le_refl h0.size) (Nat.le_of_eq g1128.symm)
    have g_b1128 : n0 ≤ b1128 := Nat.le_trans Z0 (Nat.le_of_eq g1128.symm)
    have F1128_value : Fld Z h1128 b1128 "java/lang/String" "value" "[B" .null := D1128 (Or.inr (wd hw 22 rfl)) (ty := (.array .byte)) (by decide)
    have F1128_coder : Fld Z h1128 b1128 "java/lang/String" "coder" "B" (.int 0) := D1128 (Or.inr (wd hw 23 rfl)) (ty := .byte) (by decide)
    have G1129 : Go p e below A0 (T1128.setTop (mkF m 31 #[.val (.int p0), .val (.int p1), .val (.int p2), .val (.int p3), .val (.int 0), .val (.int u0), .val (.int u1), .val (.int u2), .unset, .unset] [(.ref b1128)])) := fun tq kq => G1127 tq (st1128 _ kq)
    have G1130 : Go p e below A0 (T1128.setTop (mkF m 33 #[.val (.int p0), .val (.int p1), .val (.int p2), .val (.int p3), .val (.int 0), .val (.int u0), .val (.int u1), .val (.int u2), .unset, .unset] [(.int 0), (.ref b1128), (.ref b1128)])) := fun tq kq => G1129 tq (by
      refine XS.dup X1128.here hx rfl (hb hby at_31) rfl rfl ?_
      refine XS.iconst X1128.here hx rfl (hb hby at_32) ?_
      exact kq)
    have f1132 := (Nat.le_trans Z0 E1128.1)
    obtain ⟨T1131, h1131, k1131, X1131, e1131, E1131, A1131, st1131⟩ := newP X1128 hx hZ (wd hw 9 rfl) e1128 (g := (mkF m 33 #[.val (.int p0), .val (.int p1), .val (.int p2), .val (.int p3), .val (.int 0), .val (.int u0), .val (.int u1), .val (.int u2), .unset, .unset] [(.int 0), (.ref b1128), (.ref b1128)])) rfl (hb hby at_33) rfl (by decide) (cap := 0) (by decide) (by decide) (by decide) (by decide)
    obtain ⟨b1131, g1131⟩ : ∃ z, z = h1128.size := ⟨_, rfl⟩
    rw [← g1131] at A1131 st1131
    have f1133 := (Nat.le_trans (Nat.le_refl h0.size) E1128.1)
    have sz_b1131 : h0.size ≤ b1131 := Nat.le_trans f1133 (Nat.le_of_eq g1131.symm)
    have g_b1131 : n0 ≤ b1131 := Nat.le_trans f1132 (Nat.le_of_eq g1131.symm)
    have lt_b1128_b1131 : b1128 < b1131 := Nat.lt_of_lt_of_le A1128.lt (Nat.le_of_eq g1131.symm)
    have V1131 : Arv Z h1131 b1131 k1131 .char (0 : Int32) [] (.int 0) := (Arv.new A1131 (by decide)).pad (pad_rep [] (.int 0) 0)
    have G1134 : Go p e below A0 (T1131.setTop (mkF m 35 #[.val (.int p0), .val (.int p1), .val (.int p2), .val (.int p3), .val (.int 0), .val (.int u0), .val (.int u1), .val (.int u2), .unset, .unset] [(.ref b1131), (.ref b1128), (.ref b1128)])) := fun tq kq => G1130 tq (st1131 _ kq)
    have f1136 := (Nat.le_trans f1132 E1131.1)
    have f1137 := (A1128.ext E1131)
    have f1138 := (F1128_value.ext E1131)
    have f1139 := (F1128_coder.ext E1131)
    have f1140 := ((hold.ext E1128).ext E1131)
    have f1141 := (CHv.ext E1131 (CHv.ext E1128 hCH))
    obtain ⟨_, vq1135, ⟨T1135, L1135, k1135, n1135⟩, -, X1135, hS1135, hle1135, ⟨Lc1135, hQ1135, l1135, y1135, z1135⟩, st1135⟩ := Stand.specialBackS (s := s.setVm s.vm) X1131 hx (y := (⟨"java/lang/String", "<init>", "([C)V"⟩ : MethodName)) rfl hown (mvT hZ (wd hw 10 rfl)) (mvT hZ (wd hw 11 rfl)) (mvT hZ (wd hw 12 rfl)) (by decide) (own_backC (s := s) (vm0 := s.vm) (EL := consts_1) (W := 1) (rmH0 l Z a0 hw [] b1128 b1131 k1131  cs fo h1131 n0 f1136 f1137 g_b1128 f1138 f1139 V1131 (Ne.symm (Nat.ne_of_lt lt_b1128_b1131))  hCS hcs hSF hfo hAD hHI hLO f1140) hZ (wd hw 12 rfl) (wd hw 8 rfl) (by decide) (by decide) hEL f1141) (g := (mkF m 35 #[.val (.int p0), .val (.int p1), .val (.int p2), .val (.int p3), .val (.int 0), .val (.int u0), .val (.int u1), .val (.int u2), .unset, .unset] [(.ref b1131), (.ref b1128), (.ref b1128)])) rfl (by rw [hml]; rfl) (Steps.refl _) (a := b1128) (argsL := [(.ref b1131)]) (rest := [(.ref b1128)]) (lenOf pd_19 rfl) rfl (by show 2 * 0 + _ ≤ _; exact Nat.le_of_eq rfl) (hb hby at_35) (fun _ _ => ⟨rfl, e1131, (by decide : 2 + 2 ≤ _), (by decide : 4 + 4 ≤ _)⟩)
    dsimp only [Pt.U, Pt.locs, Pt.cells, Pt.slots] at X1135 l1135 y1135 z1135 st1135 hQ1135 hS1135 hle1135
    obtain rfl : k1135 = 4 := y1135
    obtain rfl : n1135 = 8 := z1135
    have hZ : Z.Warmed39 T1135.vm := State.Warmed39.trans (t := s.setVm s.vm) hZ hS1135.1
    have hown : (s.setVm T1135.vm).vm.findClass "com/example/role_delegation/roledelegation/NamesIsValidPinLaw" = some m.cls := by show T1135.vm.findClass _ = _; rw [hS1135.1.alike.findClass]; exact hown
    have hS := hS1135
    obtain ⟨rfl, N1135q, K1135, sn1135⟩ := hQ1135
    have N1135 : Fr n0 L1135 := by rw [l1135]; exact Fr.app N1123 N1135q
    have G1142 : Go p e below A0 (T1135.setTop (mkF m 38 #[.val (.int p0), .val (.int p1), .val (.int p2), .val (.int p3), .val (.int 0), .val (.int u0), .val (.int u1), .val (.int u2), .unset, .unset] [(.ref b1128)])) := fun tq kq => G1134 tq (st1135.trans kq)
    have G1143 : Go p e below A0 (T1135.setTop (mkF m 117 #[.val (.int p0), .val (.int p1), .val (.int p2), .val (.int p3), .val (.int 0), .val (.int u0), .val (.int u1), .val (.int u2), .val (.ref b1128), .unset] [])) := fun tq kq => G1142 tq (by
      refine XS.astore X1135.here hx rfl (hb hby at_38) rfl rfl (l' := #[.val (.int p0), .val (.int p1), .val (.int p2), .val (.int p3), .val (.int 0), .val (.int u0), .val (.int u1), .val (.int u2), .val (.ref b1128), .unset]) rfl ?_
      refine XS.goto X1135.here hx rfl (pc0 := 40) (pc' := 117) rfl (hb hby at_40) (by decide) (by decide) ?_
      exact kq)
    obtain ⟨T1144, Lc1144, ex_, X1144, e1144, N1144, hG1144, G1144⟩ : ∃ (T1144 : State) (Lc1144 : List Loc) (ex_ : Int32), Stand p l e room_1 (s.setVm T1135.vm) m #[(.int p0), (.int p1), (.int p2), (.int p3)] below meth c T1144 Lc1144 4 8 ∧ T1144.heap = T1135.heap ∧ Fr n0 Lc1144 ∧ (ex_ = own_b False) ∧ Go p e below A0 (T1144.setTop (mkF m 164 #[.val (.int p0), .val (.int p1), .val (.int p2), .val (.int p3), .val (.int 0), .val (.int u0), .val (.int u1), .val (.int u2), .val (.ref b1128), .unset] [(.int ex_)])) := by
      have G1145 : Go p e below A0 (T1135.setTop (mkF m 164 #[.val (.int p0), .val (.int p1), .val (.int p2), .val (.int p3), .val (.int 0), .val (.int u0), .val (.int u1), .val (.int u2), .val (.ref b1128), .unset] [(.int 0)])) := fun tq kq => G1143 tq (by
        refine XS.iload X1135.here hx rfl (hb hby at_117) rfl ?_
        refine XS.iconst X1135.here hx rfl (hb hby at_119) ?_
        refine XS.icmpYes X1135.here hx rfl (pc0 := 120) (pc' := 163) rfl (hb hby at_120) rfl (by decide) (by decide) (by decide) ?_
        refine XS.iconst X1135.here hx rfl (hb hby at_163) ?_
        exact kq)
      exact ⟨T1135, _, (0 : Int32), X1135, rfl, N1135, (by simp only [own_b, not_true_eq_false, not_false_eq_true, if_true, if_false, or_true, true_or, or_false, false_or, and_true, true_and, and_false, false_and, and_self, or_self]), G1145⟩
    subst hG1144
    have G1146 : Go p e below A0 (T1144.setTop (mkF m 168 #[.val (.int p0), .val (.int p1), .val (.int p2), .val (.int p3), .val (.int 0), .val (.int u0), .val (.int u1), .val (.int u2), .val (.ref b1128), .val (.int (own_b False))] [(.ref b1128)])) := fun tq kq => G1144 tq (by
      refine XS.istore X1144.here hx rfl (hb hby at_164) rfl (l' := #[.val (.int p0), .val (.int p1), .val (.int p2), .val (.int p3), .val (.int 0), .val (.int u0), .val (.int u1), .val (.int u2), .val (.ref b1128), .val (.int (own_b False))]) rfl ?_
      refine XS.aload X1144.here hx rfl (hb hby at_166) rfl rfl ?_
      exact kq)
    have f1148 := (Nat.le_trans f1136 K1135.1)
    have f1149 := (f1137.keep K1135)
    have f1150 := (f1140.keep K1135 (allS g_b1128 all0))
    obtain ⟨_, _, ⟨T1147, L1147, k1147, n1147⟩, -, X1147, ⟨Lc1147, hQ1147, l1147, y1147, z1147⟩, st1147⟩ := Jvm.LawKit.callS X1144 hx (y := (⟨"com/example/role_delegation/roledelegation/Names", "isValid", "(Ljava/lang/String;)Z"⟩ : MethodName)) hown (mvT hZ (wd hw 28 rfl)) (mvT hZ (wd hw 29 rfl)) (mvT hZ (wd hw 30 rfl)) (mvT hZ (wd hw 31 rfl)) (by decide) (backOf (W := 0) (rmV0 l Z a0 hw [] b1128  cs fo T1135.heap n0 f1148 f1149 sn1135  hCS hcs hSF hfo hAD hHI hLO f1150) hZ (wd hw 31 rfl) (wd hw 30 rfl) (by decide) (by decide)) (g := (mkF m 168 #[.val (.int p0), .val (.int p1), .val (.int p2), .val (.int p3), .val (.int 0), .val (.int u0), .val (.int u1), .val (.int u2), .val (.ref b1128), .val (.int (own_b False))] [(.ref b1128)])) rfl (by rw [hml]; rfl) (argsL := [(.ref b1128)]) (rest := []) (lenOf pd_20 rfl) rfl (by show 2 * 0 + _ ≤ _; exact Nat.le_of_eq rfl) (hb hby at_168) (fun _ _ => ⟨rfl, e1144, (by decide : 4 + 0 ≤ _), (by decide : 8 + 0 ≤ _)⟩)
    dsimp only [Pt.U, Pt.locs, Pt.cells, Pt.slots] at X1147 l1147 y1147 z1147 st1147 hQ1147
    obtain rfl : k1147 = 4 := y1147
    obtain rfl : n1147 = 8 := z1147
    obtain ⟨rfl, N1147q, e1147⟩ := hQ1147
    have N1147 : Fr n0 L1147 := by rw [l1147]; exact Fr.app N1144 N1147q
    have G1151 : Go p e below A0 (T1147.setTop (mkF m 171 #[.val (.int p0), .val (.int p1), .val (.int p2), .val (.int p3), .val (.int 0), .val (.int u0), .val (.int u1), .val (.int u2), .val (.ref b1128), .val (.int (own_b False))] [(.int (own_b False))])) := fun tq kq => G1146 tq (st1147 _ kq)
    have G1152 : Go p e below A0 (T1147.setTop (mkF m 181 #[.val (.int p0), .val (.int p1), .val (.int p2), .val (.int p3), .val (.int 0), .val (.int u0), .val (.int u1), .val (.int u2), .val (.ref b1128), .val (.int (own_b False))] [(.int 1)])) := fun tq kq => G1151 tq (by
      refine XS.iload X1147.here hx rfl (hb hby at_171) rfl ?_
      refine XS.icmpNo X1147.here hx rfl (hb hby at_173) rfl (teq (rfl : (own_b False) = (own_b False))).2 ?_
      refine XS.iconst X1147.here hx rfl (hb hby at_176) ?_
      refine XS.goto X1147.here hx rfl (pc0 := 177) (pc' := 181) rfl (hb hby at_177) (by decide) (by decide) ?_
      exact kq)
    obtain ⟨fs, hr, hrun, hended, hRW⟩ := X1147.leaveW (s := s) (vm₁ := T1135.vm) hS (by rw [e1147]; exact (Nat.le_refl _)) (v := some (.int (nar .boolean (1 : Int32)))) (fun h => by rw [Bd.returns] at h; cases h)
    refine ⟨_, _, (by rw [← hA0]; exact G1152 _ (retN X1147 hx (t := .boolean) Bd.returns (by simp) (hb hby at_181) hr)), hrun, hended, _, _, rfl, ?_, hRW.1, hRW.2.1, hRW.2.2.1, hRW.2.2.2.mono (by decide) (by decide)⟩
    exact ⟨rfl, N1147⟩
  · have G1153 : Go p e below A0 (T1123.setTop (mkF m 23 #[.val (.int p0), .val (.int p1), .val (.int p2), .val (.int p3), .val (.int 1), .val (.int u0), .val (.int u1), .val (.int u2), .unset, .unset] [])) := fun tq kq => G1125 tq (by rw [hk]; exact kq)
    have G1154 : Go p e below A0 (T1123.setTop (mkF m 51 #[.val (.int p0), .val (.int p1), .val (.int p2), .val (.int p3), .val (.int 1), .val (.int u0), .val (.int u1), .val (.int u2), .unset, .unset] [(.int u0)])) := fun tq kq => G1153 tq (by
      refine XS.iload X1123.here hx rfl (hb hby at_23) rfl ?_
      refine XS.ifYes X1123.here hx rfl (pc0 := 25) (pc' := 43) rfl (hb hby at_25) rfl (by decide) (by decide) (by decide) ?_
      refine XS.iload X1123.here hx rfl (hb hby at_43) rfl ?_
      refine XS.iconst X1123.here hx rfl (hb hby at_45) ?_
      refine XS.icmpNo X1123.here hx rfl (hb hby at_46) rfl (by decide) ?_
      refine XS.iload X1123.here hx rfl (hb hby at_49) rfl ?_
      exact kq)
    obtain ⟨_, _, ⟨T1155, L1155, k1155, n1155⟩, -, X1155, ⟨Lc1155, hQ1155, l1155, y1155, z1155⟩, st1155⟩ := Jvm.LawKit.callS X1123 hx (y := (⟨"java/lang/String", "valueOf", "(C)Ljava/lang/String;"⟩ : MethodName)) hown (mvT hZ (wd hw 89 rfl)) (mvT hZ (wd hw 90 rfl)) (mvT hZ (wd hw 8 rfl)) (mvT hZ (wd hw 91 rfl)) (by decide) (backOf (W := 0) (rmVO l Z a0 hw [] u0 cs fo h0 n0 Z0 hCS hcs hSF hfo hAD hHI hLO hold) hZ (wd hw 91 rfl) (wd hw 8 rfl) (by decide) (by decide)) (g := (mkF m 51 #[.val (.int p0), .val (.int p1), .val (.int p2), .val (.int p3), .val (.int 1), .val (.int u0), .val (.int u1), .val (.int u2), .unset, .unset] [(.int u0)])) rfl (by rw [hml]; rfl) (argsL := [(.int u0)]) (rest := []) (lenOf pd_21 rfl) rfl (by show 2 * 0 + _ ≤ _; exact Nat.le_of_eq rfl) (hb hby at_51) (fun _ _ => ⟨rfl, e1123, (by decide : 0 + 2 ≤ _), (by decide : 0 + 6 ≤ _)⟩)
    dsimp only [Pt.U, Pt.locs, Pt.cells, Pt.slots] at X1155 l1155 y1155 z1155 st1155 hQ1155
    obtain rfl : k1155 = 2 := y1155
    obtain rfl : n1155 = 6 := z1155
    obtain ⟨sa1155, rfl, N1155q, K1155, Es1155, sn1155⟩ := hQ1155
    have N1155 : Fr n0 L1155 := by rw [l1155]; exact Fr.app N1123 N1155q
    have G1156 : Go p e below A0 (T1155.setTop (mkF m 54 #[.val (.int p0), .val (.int p1), .val (.int p2), .val (.int p3), .val (.int 1), .val (.int u0), .val (.int u1), .val (.int u2), .unset, .unset] [(.ref sa1155)])) := fun tq kq => G1154 tq (st1155 _ kq)
    have G1157 : Go p e below A0 (T1155.setTop (mkF m 117 #[.val (.int p0), .val (.int p1), .val (.int p2), .val (.int p3), .val (.int 1), .val (.int u0), .val (.int u1), .val (.int u2), .val (.ref sa1155), .unset] [])) := fun tq kq => G1156 tq (by
      refine XS.astore X1155.here hx rfl (hb hby at_54) rfl rfl (l' := #[.val (.int p0), .val (.int p1), .val (.int p2), .val (.int p3), .val (.int 1), .val (.int u0), .val (.int u1), .val (.int u2), .val (.ref sa1155), .unset]) rfl ?_
      refine XS.goto X1155.here hx rfl (pc0 := 56) (pc' := 117) rfl (hb hby at_56) (by decide) (by decide) ?_
      exact kq)
    obtain ⟨T1158, Lc1158, ex_, X1158, e1158, N1158, hG1158, G1158⟩ : ∃ (T1158 : State) (Lc1158 : List Loc) (ex_ : Int32), Stand p l e room_1 s m #[(.int p0), (.int p1), (.int p2), (.int p3)] below meth c T1158 Lc1158 2 6 ∧ T1158.heap = T1155.heap ∧ Fr n0 Lc1158 ∧ (ex_ = own_b (own_ld u0)) ∧ Go p e below A0 (T1158.setTop (mkF m 164 #[.val (.int p0), .val (.int p1), .val (.int p2), .val (.int p3), .val (.int 1), .val (.int u0), .val (.int u1), .val (.int u2), .val (.ref sa1155), .unset] [(.int ex_)])) := by
      have G1159 : Go p e below A0 (T1155.setTop (mkF m 125 #[.val (.int p0), .val (.int p1), .val (.int p2), .val (.int p3), .val (.int 1), .val (.int u0), .val (.int u1), .val (.int u2), .val (.ref sa1155), .unset] [(.int u0)])) := fun tq kq => G1157 tq (by
        refine XS.iload X1155.here hx rfl (hb hby at_117) rfl ?_
        refine XS.iconst X1155.here hx rfl (hb hby at_119) ?_
        refine XS.icmpNo X1155.here hx rfl (hb hby at_120) rfl (by decide) ?_
        refine XS.iload X1155.here hx rfl (hb hby at_123) rfl ?_
        exact kq)
      have f1161 := (Nat.le_trans Z0 K1155.1)
      obtain ⟨_, _, ⟨T1160, L1160, k1160, n1160⟩, -, X1160, ⟨Lc1160, hQ1160, l1160, y1160, z1160⟩, st1160⟩ := Jvm.LawKit.callS X1155 hx (y := (⟨"com/example/role_delegation/roledelegation/NamesIsValidPinLaw", "alnum", "(C)Z"⟩ : MethodName)) hown (mvT hZ (wd hw 48 rfl)) (mvT hZ (wd hw 49 rfl)) (mvT hZ (wd hw 2 rfl)) (mvT hZ (wd hw 50 rfl)) (by decide) (backOf (W := 0) (rmAL l Z a0 hw [] u0 T1155.heap n0 f1161 ru0) hZ (wd hw 50 rfl) (wd hw 2 rfl) (by decide) (by decide)) (g := (mkF m 125 #[.val (.int p0), .val (.int p1), .val (.int p2), .val (.int p3), .val (.int 1), .val (.int u0), .val (.int u1), .val (.int u2), .val (.ref sa1155), .unset] [(.int u0)])) rfl (by rw [hml]; rfl) (argsL := [(.int u0)]) (rest := []) (lenOf pd_7 rfl) rfl (by show 2 * 0 + _ ≤ _; exact Nat.le_of_eq rfl) (hb hby at_125) (fun _ _ => ⟨rfl, rfl, (by decide : 2 + 0 ≤ _), (by decide : 6 + 0 ≤ _)⟩)
      dsimp only [Pt.U, Pt.locs, Pt.cells, Pt.slots] at X1160 l1160 y1160 z1160 st1160 hQ1160
      obtain rfl : k1160 = 2 := y1160
      obtain rfl : n1160 = 6 := z1160
      obtain ⟨rfl, N1160q, e1160⟩ := hQ1160
      have N1160 : Fr n0 L1160 := by rw [l1160]; exact Fr.app N1155 N1160q
      have G1162 : Go p e below A0 (T1160.setTop (mkF m 128 #[.val (.int p0), .val (.int p1), .val (.int p2), .val (.int p3), .val (.int 1), .val (.int u0), .val (.int u1), .val (.int u2), .val (.ref sa1155), .unset] [(.int (own_b (own_ld u0)))])) := fun tq kq => G1159 tq (st1160 _ kq)
      by_cases hc1163 : (own_ld u0)
      · have G1164 : Go p e below A0 (T1160.setTop (mkF m 164 #[.val (.int p0), .val (.int p1), .val (.int p2), .val (.int p3), .val (.int 1), .val (.int u0), .val (.int u1), .val (.int u2), .val (.ref sa1155), .unset] [(.int 1)])) := fun tq kq => G1162 tq (by
          refine XS.ifNo X1160.here hx rfl (hb hby at_128) rfl ((if0 _ _).trans (feq (own_b1 hc1163)).1) ?_
          refine XS.iload X1160.here hx rfl (hb hby at_131) rfl ?_
          refine XS.iconst X1160.here hx rfl (hb hby at_133) ?_
          refine XS.icmpYes X1160.here hx rfl (pc0 := 134) (pc' := 145) rfl (hb hby at_134) rfl (by decide) (by decide) (by decide) ?_
          refine XS.iload X1160.here hx rfl (hb hby at_145) rfl ?_
          refine XS.iconst X1160.here hx rfl (hb hby at_147) ?_
          refine XS.icmpYes X1160.here hx rfl (pc0 := 148) (pc' := 159) rfl (hb hby at_148) rfl (by decide) (by decide) (by decide) ?_
          refine XS.iconst X1160.here hx rfl (hb hby at_159) ?_
          refine XS.goto X1160.here hx rfl (pc0 := 160) (pc' := 164) rfl (hb hby at_160) (by decide) (by decide) ?_
          exact kq)
        exact ⟨T1160, _, (1 : Int32), X1160, e1160, N1160, (by simp only [own_b, hc1163, not_true_eq_false, not_false_eq_true, if_true, if_false, or_true, true_or, or_false, false_or, and_true, true_and, and_false, false_and, and_self, or_self]), G1164⟩
      · have G1165 : Go p e below A0 (T1160.setTop (mkF m 164 #[.val (.int p0), .val (.int p1), .val (.int p2), .val (.int p3), .val (.int 1), .val (.int u0), .val (.int u1), .val (.int u2), .val (.ref sa1155), .unset] [(.int 0)])) := fun tq kq => G1162 tq (by
          refine XS.ifYes X1160.here hx rfl (pc0 := 128) (pc' := 163) rfl (hb hby at_128) rfl ((if0 _ _).trans (teq (own_b0 hc1163)).1) (by decide) (by decide) ?_
          refine XS.iconst X1160.here hx rfl (hb hby at_163) ?_
          exact kq)
        exact ⟨T1160, _, (0 : Int32), X1160, e1160, N1160, (by simp only [own_b, hc1163, not_true_eq_false, not_false_eq_true, if_true, if_false, or_true, true_or, or_false, false_or, and_true, true_and, and_false, false_and, and_self, or_self]), G1165⟩
    subst hG1158
    have G1166 : Go p e below A0 (T1158.setTop (mkF m 168 #[.val (.int p0), .val (.int p1), .val (.int p2), .val (.int p3), .val (.int 1), .val (.int u0), .val (.int u1), .val (.int u2), .val (.ref sa1155), .val (.int (own_b (own_ld u0)))] [(.ref sa1155)])) := fun tq kq => G1158 tq (by
      refine XS.istore X1158.here hx rfl (hb hby at_164) rfl (l' := #[.val (.int p0), .val (.int p1), .val (.int p2), .val (.int p3), .val (.int 1), .val (.int u0), .val (.int u1), .val (.int u2), .val (.ref sa1155), .val (.int (own_b (own_ld u0)))]) rfl ?_
      refine XS.aload X1158.here hx rfl (hb hby at_166) rfl rfl ?_
      exact kq)
    have f1168 := (Nat.le_trans Z0 K1155.1)
    have f1169 := (hold.keep K1155 all0)
    obtain ⟨_, _, ⟨T1167, L1167, k1167, n1167⟩, -, X1167, ⟨Lc1167, hQ1167, l1167, y1167, z1167⟩, st1167⟩ := Jvm.LawKit.callS X1158 hx (y := (⟨"com/example/role_delegation/roledelegation/Names", "isValid", "(Ljava/lang/String;)Z"⟩ : MethodName)) hown (mvT hZ (wd hw 28 rfl)) (mvT hZ (wd hw 29 rfl)) (mvT hZ (wd hw 30 rfl)) (mvT hZ (wd hw 31 rfl)) (by decide) (backOf (W := 0) (rmV1 l Z a0 hw [] sa1155 u0 cs fo T1155.heap n0 f1168 Es1155 sn1155 ru0 hCS hcs hSF hfo hAD hHI hLO f1169) hZ (wd hw 31 rfl) (wd hw 30 rfl) (by decide) (by decide)) (g := (mkF m 168 #[.val (.int p0), .val (.int p1), .val (.int p2), .val (.int p3), .val (.int 1), .val (.int u0), .val (.int u1), .val (.int u2), .val (.ref sa1155), .val (.int (own_b (own_ld u0)))] [(.ref sa1155)])) rfl (by rw [hml]; rfl) (argsL := [(.ref sa1155)]) (rest := []) (lenOf pd_20 rfl) rfl (by show 2 * 0 + _ ≤ _; exact Nat.le_of_eq rfl) (hb hby at_168) (fun _ _ => ⟨rfl, e1158, (by decide : 2 + 0 ≤ _), (by decide : 6 + 0 ≤ _)⟩)
    dsimp only [Pt.U, Pt.locs, Pt.cells, Pt.slots] at X1167 l1167 y1167 z1167 st1167 hQ1167
    obtain rfl : k1167 = 2 := y1167
    obtain rfl : n1167 = 6 := z1167
    obtain ⟨rfl, N1167q, e1167⟩ := hQ1167
    have N1167 : Fr n0 L1167 := by rw [l1167]; exact Fr.app N1158 N1167q
    have G1170 : Go p e below A0 (T1167.setTop (mkF m 171 #[.val (.int p0), .val (.int p1), .val (.int p2), .val (.int p3), .val (.int 1), .val (.int u0), .val (.int u1), .val (.int u2), .val (.ref sa1155), .val (.int (own_b (own_ld u0)))] [(.int (own_b (own_ld u0)))])) := fun tq kq => G1166 tq (st1167 _ kq)
    have G1171 : Go p e below A0 (T1167.setTop (mkF m 181 #[.val (.int p0), .val (.int p1), .val (.int p2), .val (.int p3), .val (.int 1), .val (.int u0), .val (.int u1), .val (.int u2), .val (.ref sa1155), .val (.int (own_b (own_ld u0)))] [(.int 1)])) := fun tq kq => G1170 tq (by
      refine XS.iload X1167.here hx rfl (hb hby at_171) rfl ?_
      refine XS.icmpNo X1167.here hx rfl (hb hby at_173) rfl (teq (rfl : (own_b (own_ld u0)) = (own_b (own_ld u0)))).2 ?_
      refine XS.iconst X1167.here hx rfl (hb hby at_176) ?_
      refine XS.goto X1167.here hx rfl (pc0 := 177) (pc' := 181) rfl (hb hby at_177) (by decide) (by decide) ?_
      exact kq)
    have f1172 := (Nat.le_trans (Nat.zero_le h0.size) K1155.1)
    obtain ⟨fs, hr, hrun, hended, hRW⟩ := X1167.leaveW (s := s) (vm₁ := s.vm) hS (by rw [e1167]; exact f1172) (v := some (.int (nar .boolean (1 : Int32)))) (fun h => by rw [Bd.returns] at h; cases h)
    refine ⟨_, _, (by rw [← hA0]; exact G1171 _ (retN X1167 hx (t := .boolean) Bd.returns (by simp) (hb hby at_181) hr)), hrun, hended, _, _, rfl, ?_, hRW.1, hRW.2.1, hRW.2.2.1, hRW.2.2.2.mono (by decide) (by decide)⟩
    exact ⟨rfl, N1167⟩
  · have G1173 : Go p e below A0 (T1123.setTop (mkF m 23 #[.val (.int p0), .val (.int p1), .val (.int p2), .val (.int p3), .val (.int 2), .val (.int u0), .val (.int u1), .val (.int u2), .unset, .unset] [])) := fun tq kq => G1125 tq (by rw [hk]; exact kq)
    have G1174 : Go p e below A0 (T1123.setTop (mkF m 65 #[.val (.int p0), .val (.int p1), .val (.int p2), .val (.int p3), .val (.int 2), .val (.int u0), .val (.int u1), .val (.int u2), .unset, .unset] [])) := fun tq kq => G1173 tq (by
      refine XS.iload X1123.here hx rfl (hb hby at_23) rfl ?_
      refine XS.ifYes X1123.here hx rfl (pc0 := 25) (pc' := 43) rfl (hb hby at_25) rfl (by decide) (by decide) (by decide) ?_
      refine XS.iload X1123.here hx rfl (hb hby at_43) rfl ?_
      refine XS.iconst X1123.here hx rfl (hb hby at_45) ?_
      refine XS.icmpYes X1123.here hx rfl (pc0 := 46) (pc' := 59) rfl (hb hby at_46) rfl (by decide) (by decide) (by decide) ?_
      refine XS.iload X1123.here hx rfl (hb hby at_59) rfl ?_
      refine XS.iconst X1123.here hx rfl (hb hby at_61) ?_
      refine XS.icmpNo X1123.here hx rfl (hb hby at_62) rfl (by decide) ?_
      exact kq)
    obtain ⟨T1175, h1175, X1175, e1175, E1175, A1175, D1175, -, st1175⟩ := newO X1123 hx hZ hown (wd hw 6 rfl) (wd hw 7 rfl) (wd hw 8 rfl) e1123 (g := (mkF m 65 #[.val (.int p0), .val (.int p1), .val (.int p2), .val (.int p3), .val (.int 2), .val (.int u0), .val (.int u1), .val (.int u2), .unset, .unset] [])) rfl (hb hby at_65) (by decide) (by decide)
    obtain ⟨b1175, g1175⟩ : ∃ z, z = h0.size := ⟨_, rfl⟩
    rw [← g1175] at A1175 D1175 st1175
    have sz_b1175 : h0.size ≤ b1175 := Nat.le_trans (Nat.le_refl h0.size) (Nat.le_of_eq g1175.symm)
    have g_b1175 : n0 ≤ b1175 := Nat.le_trans Z0 (Nat.le_of_eq g1175.symm)
    have F1175_value : Fld Z h1175 b1175 "java/lang/String" "value" "[B" .null := D1175 (Or.inr (wd hw 22 rfl)) (ty := (.array .byte)) (by decide)
    have F1175_coder : Fld Z h1175 b1175 "java/lang/String" "coder" "B" (.int 0) := D1175 (Or.inr (wd hw 23 rfl)) (ty := .byte) (by decide)
    have G1176 : Go p e below A0 (T1175.setTop (mkF m 68 #[.val (.int p0), .val (.int p1), .val (.int p2), .val (.int p3), .val (.int 2), .val (.int u0), .val (.int u1), .val (.int u2), .unset, .unset] [(.ref b1175)])) := fun tq kq => G1174 tq (st1175 _ kq)
    have G1177 : Go p e below A0 (T1175.setTop (mkF m 70 #[.val (.int p0), .val (.int p1), .val (.int p2), .val (.int p3), .val (.int 2), .val (.int u0), .val (.int u1), .val (.int u2), .unset, .unset] [(.int 2), (.ref b1175), (.ref b1175)])) := fun tq kq => G1176 tq (by
      refine XS.dup X1175.here hx rfl (hb hby at_68) rfl rfl ?_
      refine XS.iconst X1175.here hx rfl (hb hby at_69) ?_
      exact kq)
    have f1179 := (Nat.le_trans Z0 E1175.1)
    obtain ⟨T1178, h1178, k1178, X1178, e1178, E1178, A1178, st1178⟩ := newP X1175 hx hZ (wd hw 9 rfl) e1175 (g := (mkF m 70 #[.val (.int p0), .val (.int p1), .val (.int p2), .val (.int p3), .val (.int 2), .val (.int u0), .val (.int u1), .val (.int u2), .unset, .unset] [(.int 2), (.ref b1175), (.ref b1175)])) rfl (hb hby at_70) rfl (by decide) (cap := 2) (by decide) (by decide) (by decide) (by decide)
    obtain ⟨b1178, g1178⟩ : ∃ z, z = h1175.size := ⟨_, rfl⟩
    rw [← g1178] at A1178 st1178
    have f1180 := (Nat.le_trans (Nat.le_refl h0.size) E1175.1)
    have sz_b1178 : h0.size ≤ b1178 := Nat.le_trans f1180 (Nat.le_of_eq g1178.symm)
    have g_b1178 : n0 ≤ b1178 := Nat.le_trans f1179 (Nat.le_of_eq g1178.symm)
    have lt_b1175_b1178 : b1175 < b1178 := Nat.lt_of_lt_of_le A1175.lt (Nat.le_of_eq g1178.symm)
    have V1178 : Arv Z h1178 b1178 k1178 .char (2 : Int32) [(.int 0), (.int 0)] (.int 0) := (Arv.new A1178 (by decide)).pad (pad_rep [] (.int 0) 2)
    have G1181 : Go p e below A0 (T1178.setTop (mkF m 72 #[.val (.int p0), .val (.int p1), .val (.int p2), .val (.int p3), .val (.int 2), .val (.int u0), .val (.int u1), .val (.int u2), .unset, .unset] [(.ref b1178), (.ref b1175), (.ref b1175)])) := fun tq kq => G1177 tq (st1178 _ kq)
    have G1182 : Go p e below A0 (T1178.setTop (mkF m 76 #[.val (.int p0), .val (.int p1), .val (.int p2), .val (.int p3), .val (.int 2), .val (.int u0), .val (.int u1), .val (.int u2), .unset, .unset] [(.int u0), (.int 0), (.ref b1178), (.ref b1178), (.ref b1175), (.ref b1175)])) := fun tq kq => G1181 tq (by
      refine XS.dup X1178.here hx rfl (hb hby at_72) rfl rfl ?_
      refine XS.iconst X1178.here hx rfl (hb hby at_73) ?_
      refine XS.iload X1178.here hx rfl (hb hby at_74) rfl ?_
      exact kq)
    obtain ⟨cl1183, Ar1183, q1183, S1183, M1183, H1183, Gf1183⟩ := id V1178
    have hi1184 : ¬ ((0 : Int32) < 0 ∨ cl1183.slots.size ≤ ((0 : Int32)).toNatClampNeg) := (inb_of S1183 ⟨by decide, by decide⟩)
    obtain ⟨T1185, h1185, X1185, e1185, W1185, st1185⟩ := stC X1178 hx hZ e1178 Ar1183 (j := (0 : Int32)) hi1184 (g := (mkF m 76 #[.val (.int p0), .val (.int p1), .val (.int p2), .val (.int p3), .val (.int 2), .val (.int u0), .val (.int u1), .val (.int u2), .unset, .unset] [(.int u0), (.int 0), (.ref b1178), (.ref b1178), (.ref b1175), (.ref b1175)])) rfl rfl (hb hby at_76)
    rw [show nar .char u0 = u0 from own_nC ru0] at W1185
    have N1185 := Fr.snoc X1185 N1123 g_b1178
    have V1185 := Arv.set Ar1183 q1183 S1183 M1183 H1183 Gf1183 (own_fC ru0) W1185 0 rfl (Nat.le_of_ble_eq_true rfl)
    have V1185' : Arv Z h1185 b1178 k1178 .char (2 : Int32) [(.int u0), (.int 0)] (.int 0) := by exact V1185
    have G1186 : Go p e below A0 (T1185.setTop (mkF m 77 #[.val (.int p0), .val (.int p1), .val (.int p2), .val (.int p3), .val (.int 2), .val (.int u0), .val (.int u1), .val (.int u2), .unset, .unset] [(.ref b1178), (.ref b1175), (.ref b1175)])) := fun tq kq => G1182 tq (st1185 _ kq)
    have G1187 : Go p e below A0 (T1185.setTop (mkF m 81 #[.val (.int p0), .val (.int p1), .val (.int p2), .val (.int p3), .val (.int 2), .val (.int u0), .val (.int u1), .val (.int u2), .unset, .unset] [(.int u1), (.int 1), (.ref b1178), (.ref b1178), (.ref b1175), (.ref b1175)])) := fun tq kq => G1186 tq (by
      refine XS.dup X1185.here hx rfl (hb hby at_77) rfl rfl ?_
      refine XS.iconst X1185.here hx rfl (hb hby at_78) ?_
      refine XS.iload X1185.here hx rfl (hb hby at_79) rfl ?_
      exact kq)
    obtain ⟨cl1188, Ar1188, q1188, S1188, M1188, H1188, Gf1188⟩ := id V1185'
    have hi1189 : ¬ ((1 : Int32) < 0 ∨ cl1188.slots.size ≤ ((1 : Int32)).toNatClampNeg) := (inb_of S1188 ⟨by decide, by decide⟩)
    obtain ⟨T1190, h1190, X1190, e1190, W1190, st1190⟩ := stC X1185 hx hZ e1185 Ar1188 (j := (1 : Int32)) hi1189 (g := (mkF m 81 #[.val (.int p0), .val (.int p1), .val (.int p2), .val (.int p3), .val (.int 2), .val (.int u0), .val (.int u1), .val (.int u2), .unset, .unset] [(.int u1), (.int 1), (.ref b1178), (.ref b1178), (.ref b1175), (.ref b1175)])) rfl rfl (hb hby at_81)
    rw [show nar .char u1 = u1 from own_nC ru1] at W1190
    have N1190 := Fr.snoc X1190 N1185 g_b1178
    have V1190 := Arv.set Ar1188 q1188 S1188 M1188 H1188 Gf1188 (own_fC ru1) W1190 1 rfl (Nat.le_of_ble_eq_true rfl)
    have V1190' : Arv Z h1190 b1178 k1178 .char (2 : Int32) [(.int u0), (.int u1)] (.int 0) := by exact V1190
    have G1191 : Go p e below A0 (T1190.setTop (mkF m 82 #[.val (.int p0), .val (.int p1), .val (.int p2), .val (.int p3), .val (.int 2), .val (.int u0), .val (.int u1), .val (.int u2), .unset, .unset] [(.ref b1178), (.ref b1175), (.ref b1175)])) := fun tq kq => G1187 tq (st1190 _ kq)
    have f1193 := (Nat.le_trans (Nat.le_trans (Nat.le_trans f1179 E1178.1) (Keep.of_wr W1185).1) (Keep.of_wr W1190).1)
    have f1194 := (((A1175.ext E1178).wr W1185).wr W1190)
    have f1195 := (((F1175_value.ext E1178).other W1185 (Or.inl (Nat.ne_of_lt lt_b1175_b1178))).other W1190 (Or.inl (Nat.ne_of_lt lt_b1175_b1178)))
    have f1196 := (((F1175_coder.ext E1178).other W1185 (Or.inl (Nat.ne_of_lt lt_b1175_b1178))).other W1190 (Or.inl (Nat.ne_of_lt lt_b1175_b1178)))
    have f1197 := ((((hold.ext E1175).ext E1178).wr W1185 g_b1178).wr W1190 g_b1178)
    obtain ⟨_, _, ⟨T1192, L1192, k1192, n1192⟩, -, X1192, ⟨Lc1192, hQ1192, l1192, y1192, z1192⟩, st1192⟩ := X1190.specialBack hx (y := (⟨"java/lang/String", "<init>", "([C)V"⟩ : MethodName)) rfl hown (mvT hZ (wd hw 10 rfl)) (mvT hZ (wd hw 11 rfl)) (mvT hZ (wd hw 12 rfl)) (by decide) (backOf (W := 1) (rmH2 l Z a0 hw [] b1175 b1178 k1178 u0 u1 cs fo h1190 n0 f1193 f1194 g_b1175 f1195 f1196 V1190' (Ne.symm (Nat.ne_of_lt lt_b1175_b1178)) ru0 ru1 hCS hcs hSF hfo hAD hHI hLO f1197) hZ (wd hw 12 rfl) (wd hw 8 rfl) (by decide) (by decide)) (g := (mkF m 82 #[.val (.int p0), .val (.int p1), .val (.int p2), .val (.int p3), .val (.int 2), .val (.int u0), .val (.int u1), .val (.int u2), .unset, .unset] [(.ref b1178), (.ref b1175), (.ref b1175)])) rfl (by rw [hml]; rfl) (Steps.refl _) (a := b1175) (argsL := [(.ref b1178)]) (rest := [(.ref b1175)]) (lenOf pd_19 rfl) rfl (by show 2 * 0 + _ ≤ _; exact Nat.le_of_eq rfl) (hb hby at_82) (fun _ _ => ⟨rfl, e1190, (by decide : 2 + 2 ≤ _), (by decide : 6 + 6 ≤ _)⟩)
    dsimp only [Pt.U, Pt.locs, Pt.cells, Pt.slots] at X1192 l1192 y1192 z1192 st1192 hQ1192
    obtain rfl : k1192 = 4 := y1192
    obtain rfl : n1192 = 12 := z1192
    obtain ⟨rfl, N1192q, K1192, sn1192⟩ := hQ1192
    have N1192 : Fr n0 L1192 := by rw [l1192]; exact Fr.app N1190 N1192q
    have G1198 : Go p e below A0 (T1192.setTop (mkF m 85 #[.val (.int p0), .val (.int p1), .val (.int p2), .val (.int p3), .val (.int 2), .val (.int u0), .val (.int u1), .val (.int u2), .unset, .unset] [(.ref b1175)])) := fun tq kq => G1191 tq (st1192.trans kq)
    have G1199 : Go p e below A0 (T1192.setTop (mkF m 117 #[.val (.int p0), .val (.int p1), .val (.int p2), .val (.int p3), .val (.int 2), .val (.int u0), .val (.int u1), .val (.int u2), .val (.ref b1175), .unset] [])) := fun tq kq => G1198 tq (by
      refine XS.astore X1192.here hx rfl (hb hby at_85) rfl rfl (l' := #[.val (.int p0), .val (.int p1), .val (.int p2), .val (.int p3), .val (.int 2), .val (.int u0), .val (.int u1), .val (.int u2), .val (.ref b1175), .unset]) rfl ?_
      refine XS.goto X1192.here hx rfl (pc0 := 87) (pc' := 117) rfl (hb hby at_87) (by decide) (by decide) ?_
      exact kq)
    obtain ⟨T1200, Lc1200, ex_, X1200, e1200, N1200, hG1200, G1200⟩ : ∃ (T1200 : State) (Lc1200 : List Loc) (ex_ : Int32), Stand p l e room_1 s m #[(.int p0), (.int p1), (.int p2), (.int p3)] below meth c T1200 Lc1200 4 12 ∧ T1200.heap = T1192.heap ∧ Fr n0 Lc1200 ∧ (ex_ = own_b (own_ld u0 ∧ own_tl u1)) ∧ Go p e below A0 (T1200.setTop (mkF m 164 #[.val (.int p0), .val (.int p1), .val (.int p2), .val (.int p3), .val (.int 2), .val (.int u0), .val (.int u1), .val (.int u2), .val (.ref b1175), .unset] [(.int ex_)])) := by
      have G1201 : Go p e below A0 (T1192.setTop (mkF m 125 #[.val (.int p0), .val (.int p1), .val (.int p2), .val (.int p3), .val (.int 2), .val (.int u0), .val (.int u1), .val (.int u2), .val (.ref b1175), .unset] [(.int u0)])) := fun tq kq => G1199 tq (by
        refine XS.iload X1192.here hx rfl (hb hby at_117) rfl ?_
        refine XS.iconst X1192.here hx rfl (hb hby at_119) ?_
        refine XS.icmpNo X1192.here hx rfl (hb hby at_120) rfl (by decide) ?_
        refine XS.iload X1192.here hx rfl (hb hby at_123) rfl ?_
        exact kq)
      have f1203 := (Nat.le_trans f1193 K1192.1)
      obtain ⟨_, _, ⟨T1202, L1202, k1202, n1202⟩, -, X1202, ⟨Lc1202, hQ1202, l1202, y1202, z1202⟩, st1202⟩ := Jvm.LawKit.callS X1192 hx (y := (⟨"com/example/role_delegation/roledelegation/NamesIsValidPinLaw", "alnum", "(C)Z"⟩ : MethodName)) hown (mvT hZ (wd hw 48 rfl)) (mvT hZ (wd hw 49 rfl)) (mvT hZ (wd hw 2 rfl)) (mvT hZ (wd hw 50 rfl)) (by decide) (backOf (W := 0) (rmAL l Z a0 hw [] u0 T1192.heap n0 f1203 ru0) hZ (wd hw 50 rfl) (wd hw 2 rfl) (by decide) (by decide)) (g := (mkF m 125 #[.val (.int p0), .val (.int p1), .val (.int p2), .val (.int p3), .val (.int 2), .val (.int u0), .val (.int u1), .val (.int u2), .val (.ref b1175), .unset] [(.int u0)])) rfl (by rw [hml]; rfl) (argsL := [(.int u0)]) (rest := []) (lenOf pd_7 rfl) rfl (by show 2 * 0 + _ ≤ _; exact Nat.le_of_eq rfl) (hb hby at_125) (fun _ _ => ⟨rfl, rfl, (by decide : 4 + 0 ≤ _), (by decide : 12 + 0 ≤ _)⟩)
      dsimp only [Pt.U, Pt.locs, Pt.cells, Pt.slots] at X1202 l1202 y1202 z1202 st1202 hQ1202
      obtain rfl : k1202 = 4 := y1202
      obtain rfl : n1202 = 12 := z1202
      obtain ⟨rfl, N1202q, e1202⟩ := hQ1202
      have N1202 : Fr n0 L1202 := by rw [l1202]; exact Fr.app N1192 N1202q
      have G1204 : Go p e below A0 (T1202.setTop (mkF m 128 #[.val (.int p0), .val (.int p1), .val (.int p2), .val (.int p3), .val (.int 2), .val (.int u0), .val (.int u1), .val (.int u2), .val (.ref b1175), .unset] [(.int (own_b (own_ld u0)))])) := fun tq kq => G1201 tq (st1202 _ kq)
      by_cases hc1205 : (own_ld u0)
      · have G1206 : Go p e below A0 (T1202.setTop (mkF m 139 #[.val (.int p0), .val (.int p1), .val (.int p2), .val (.int p3), .val (.int 2), .val (.int u0), .val (.int u1), .val (.int u2), .val (.ref b1175), .unset] [(.int u1)])) := fun tq kq => G1204 tq (by
          refine XS.ifNo X1202.here hx rfl (hb hby at_128) rfl ((if0 _ _).trans (feq (own_b1 hc1205)).1) ?_
          refine XS.iload X1202.here hx rfl (hb hby at_131) rfl ?_
          refine XS.iconst X1202.here hx rfl (hb hby at_133) ?_
          refine XS.icmpNo X1202.here hx rfl (hb hby at_134) rfl (by decide) ?_
          refine XS.iload X1202.here hx rfl (hb hby at_137) rfl ?_
          exact kq)
        obtain ⟨_, _, ⟨T1207, L1207, k1207, n1207⟩, -, X1207, ⟨Lc1207, hQ1207, l1207, y1207, z1207⟩, st1207⟩ := Jvm.LawKit.callS X1202 hx (y := (⟨"com/example/role_delegation/roledelegation/NamesIsValidPinLaw", "tail", "(C)Z"⟩ : MethodName)) hown (mvT hZ (wd hw 86 rfl)) (mvT hZ (wd hw 87 rfl)) (mvT hZ (wd hw 2 rfl)) (mvT hZ (wd hw 88 rfl)) (by decide) (backOf (W := 0) (rmTL l Z a0 hw [] u1 T1192.heap n0 f1203 ru1) hZ (wd hw 88 rfl) (wd hw 2 rfl) (by decide) (by decide)) (g := (mkF m 139 #[.val (.int p0), .val (.int p1), .val (.int p2), .val (.int p3), .val (.int 2), .val (.int u0), .val (.int u1), .val (.int u2), .val (.ref b1175), .unset] [(.int u1)])) rfl (by rw [hml]; rfl) (argsL := [(.int u1)]) (rest := []) (lenOf pd_7 rfl) rfl (by show 2 * 0 + _ ≤ _; exact Nat.le_of_eq rfl) (hb hby at_139) (fun _ _ => ⟨rfl, e1202, (by decide : 4 + 0 ≤ _), (by decide : 12 + 0 ≤ _)⟩)
        dsimp only [Pt.U, Pt.locs, Pt.cells, Pt.slots] at X1207 l1207 y1207 z1207 st1207 hQ1207
        obtain rfl : k1207 = 4 := y1207
        obtain rfl : n1207 = 12 := z1207
        obtain ⟨rfl, N1207q, e1207⟩ := hQ1207
        have N1207 : Fr n0 L1207 := by rw [l1207]; exact Fr.app N1202 N1207q
        have G1208 : Go p e below A0 (T1207.setTop (mkF m 142 #[.val (.int p0), .val (.int p1), .val (.int p2), .val (.int p3), .val (.int 2), .val (.int u0), .val (.int u1), .val (.int u2), .val (.ref b1175), .unset] [(.int (own_b (own_tl u1)))])) := fun tq kq => G1206 tq (st1207 _ kq)
        by_cases hc1209 : (own_tl u1)
        · have G1210 : Go p e below A0 (T1207.setTop (mkF m 164 #[.val (.int p0), .val (.int p1), .val (.int p2), .val (.int p3), .val (.int 2), .val (.int u0), .val (.int u1), .val (.int u2), .val (.ref b1175), .unset] [(.int 1)])) := fun tq kq => G1208 tq (by
            refine XS.ifNo X1207.here hx rfl (hb hby at_142) rfl ((if0 _ _).trans (feq (own_b1 hc1209)).1) ?_
            refine XS.iload X1207.here hx rfl (hb hby at_145) rfl ?_
            refine XS.iconst X1207.here hx rfl (hb hby at_147) ?_
            refine XS.icmpYes X1207.here hx rfl (pc0 := 148) (pc' := 159) rfl (hb hby at_148) rfl (by decide) (by decide) (by decide) ?_
            refine XS.iconst X1207.here hx rfl (hb hby at_159) ?_
            refine XS.goto X1207.here hx rfl (pc0 := 160) (pc' := 164) rfl (hb hby at_160) (by decide) (by decide) ?_
            exact kq)
          exact ⟨T1207, _, (1 : Int32), X1207, e1207, N1207, (by simp only [own_b, hc1205, hc1209, not_true_eq_false, not_false_eq_true, if_true, if_false, or_true, true_or, or_false, false_or, and_true, true_and, and_false, false_and, and_self, or_self]), G1210⟩
        · have G1211 : Go p e below A0 (T1207.setTop (mkF m 164 #[.val (.int p0), .val (.int p1), .val (.int p2), .val (.int p3), .val (.int 2), .val (.int u0), .val (.int u1), .val (.int u2), .val (.ref b1175), .unset] [(.int 0)])) := fun tq kq => G1208 tq (by
            refine XS.ifYes X1207.here hx rfl (pc0 := 142) (pc' := 163) rfl (hb hby at_142) rfl ((if0 _ _).trans (teq (own_b0 hc1209)).1) (by decide) (by decide) ?_
            refine XS.iconst X1207.here hx rfl (hb hby at_163) ?_
            exact kq)
          exact ⟨T1207, _, (0 : Int32), X1207, e1207, N1207, (by simp only [own_b, hc1205, hc1209, not_true_eq_false, not_false_eq_true, if_true, if_false, or_true, true_or, or_false, false_or, and_true, true_and, and_false, false_and, and_self, or_self]), G1211⟩
      · have G1212 : Go p e below A0 (T1202.setTop (mkF m 164 #[.val (.int p0), .val (.int p1), .val (.int p2), .val (.int p3), .val (.int 2), .val (.int u0), .val (.int u1), .val (.int u2), .val (.ref b1175), .unset] [(.int 0)])) := fun tq kq => G1204 tq (by
          refine XS.ifYes X1202.here hx rfl (pc0 := 128) (pc' := 163) rfl (hb hby at_128) rfl ((if0 _ _).trans (teq (own_b0 hc1205)).1) (by decide) (by decide) ?_
          refine XS.iconst X1202.here hx rfl (hb hby at_163) ?_
          exact kq)
        exact ⟨T1202, _, (0 : Int32), X1202, e1202, N1202, (by simp only [own_b, hc1205, not_true_eq_false, not_false_eq_true, if_true, if_false, or_true, true_or, or_false, false_or, and_true, true_and, and_false, false_and, and_self, or_self]), G1212⟩
    subst hG1200
    have G1213 : Go p e below A0 (T1200.setTop (mkF m 168 #[.val (.int p0), .val (.int p1), .val (.int p2), .val (.int p3), .val (.int 2), .val (.int u0), .val (.int u1), .val (.int u2), .val (.ref b1175), .val (.int (own_b (own_ld u0 ∧ own_tl u1)))] [(.ref b1175)])) := fun tq kq => G1200 tq (by
      refine XS.istore X1200.here hx rfl (hb hby at_164) rfl (l' := #[.val (.int p0), .val (.int p1), .val (.int p2), .val (.int p3), .val (.int 2), .val (.int u0), .val (.int u1), .val (.int u2), .val (.ref b1175), .val (.int (own_b (own_ld u0 ∧ own_tl u1)))]) rfl ?_
      refine XS.aload X1200.here hx rfl (hb hby at_166) rfl rfl ?_
      exact kq)
    have f1215 := (Nat.le_trans f1193 K1192.1)
    have f1216 := (f1194.keep K1192)
    have f1217 := (f1197.keep K1192 (allS g_b1175 all0))
    obtain ⟨_, _, ⟨T1214, L1214, k1214, n1214⟩, -, X1214, ⟨Lc1214, hQ1214, l1214, y1214, z1214⟩, st1214⟩ := Jvm.LawKit.callS X1200 hx (y := (⟨"com/example/role_delegation/roledelegation/Names", "isValid", "(Ljava/lang/String;)Z"⟩ : MethodName)) hown (mvT hZ (wd hw 28 rfl)) (mvT hZ (wd hw 29 rfl)) (mvT hZ (wd hw 30 rfl)) (mvT hZ (wd hw 31 rfl)) (by decide) (backOf (W := 0) (rmV2 l Z a0 hw [] b1175 u0 u1 cs fo T1192.heap n0 f1215 f1216 sn1192 ru0 ru1 hCS hcs hSF hfo hAD hHI hLO f1217) hZ (wd hw 31 rfl) (wd hw 30 rfl) (by decide) (by decide)) (g := (mkF m 168 #[.val (.int p0), .val (.int p1), .val (.int p2), .val (.int p3), .val (.int 2), .val (.int u0), .val (.int u1), .val (.int u2), .val (.ref b1175), .val (.int (own_b (own_ld u0 ∧ own_tl u1)))] [(.ref b1175)])) rfl (by rw [hml]; rfl) (argsL := [(.ref b1175)]) (rest := []) (lenOf pd_20 rfl) rfl (by show 2 * 0 + _ ≤ _; exact Nat.le_of_eq rfl) (hb hby at_168) (fun _ _ => ⟨rfl, e1200, (by decide : 4 + 0 ≤ _), (by decide : 12 + 0 ≤ _)⟩)
    dsimp only [Pt.U, Pt.locs, Pt.cells, Pt.slots] at X1214 l1214 y1214 z1214 st1214 hQ1214
    obtain rfl : k1214 = 4 := y1214
    obtain rfl : n1214 = 12 := z1214
    obtain ⟨rfl, N1214q, e1214⟩ := hQ1214
    have N1214 : Fr n0 L1214 := by rw [l1214]; exact Fr.app N1200 N1214q
    have G1218 : Go p e below A0 (T1214.setTop (mkF m 171 #[.val (.int p0), .val (.int p1), .val (.int p2), .val (.int p3), .val (.int 2), .val (.int u0), .val (.int u1), .val (.int u2), .val (.ref b1175), .val (.int (own_b (own_ld u0 ∧ own_tl u1)))] [(.int (own_b (own_ld u0 ∧ own_tl u1)))])) := fun tq kq => G1213 tq (st1214 _ kq)
    have G1219 : Go p e below A0 (T1214.setTop (mkF m 181 #[.val (.int p0), .val (.int p1), .val (.int p2), .val (.int p3), .val (.int 2), .val (.int u0), .val (.int u1), .val (.int u2), .val (.ref b1175), .val (.int (own_b (own_ld u0 ∧ own_tl u1)))] [(.int 1)])) := fun tq kq => G1218 tq (by
      refine XS.iload X1214.here hx rfl (hb hby at_171) rfl ?_
      refine XS.icmpNo X1214.here hx rfl (hb hby at_173) rfl (teq (rfl : (own_b (own_ld u0 ∧ own_tl u1)) = (own_b (own_ld u0 ∧ own_tl u1)))).2 ?_
      refine XS.iconst X1214.here hx rfl (hb hby at_176) ?_
      refine XS.goto X1214.here hx rfl (pc0 := 177) (pc' := 181) rfl (hb hby at_177) (by decide) (by decide) ?_
      exact kq)
    have f1220 := (Nat.le_trans (Nat.le_trans (Nat.le_trans (Nat.le_trans (Nat.le_trans (Nat.zero_le h0.size) E1175.1) E1178.1) (Keep.of_wr W1185).1) (Keep.of_wr W1190).1) K1192.1)
    obtain ⟨fs, hr, hrun, hended, hRW⟩ := X1214.leaveW (s := s) (vm₁ := s.vm) hS (by rw [e1214]; exact f1220) (v := some (.int (nar .boolean (1 : Int32)))) (fun h => by rw [Bd.returns] at h; cases h)
    refine ⟨_, _, (by rw [← hA0]; exact G1219 _ (retN X1214 hx (t := .boolean) Bd.returns (by simp) (hb hby at_181) hr)), hrun, hended, _, _, rfl, ?_, hRW.1, hRW.2.1, hRW.2.2.1, hRW.2.2.2.mono (by decide) (by decide)⟩
    exact ⟨rfl, N1214⟩
  · have G1221 : Go p e below A0 (T1123.setTop (mkF m 23 #[.val (.int p0), .val (.int p1), .val (.int p2), .val (.int p3), .val (.int 3), .val (.int u0), .val (.int u1), .val (.int u2), .unset, .unset] [])) := fun tq kq => G1125 tq (by rw [hk]; exact kq)
    have G1222 : Go p e below A0 (T1123.setTop (mkF m 90 #[.val (.int p0), .val (.int p1), .val (.int p2), .val (.int p3), .val (.int 3), .val (.int u0), .val (.int u1), .val (.int u2), .unset, .unset] [])) := fun tq kq => G1221 tq (by
      refine XS.iload X1123.here hx rfl (hb hby at_23) rfl ?_
      refine XS.ifYes X1123.here hx rfl (pc0 := 25) (pc' := 43) rfl (hb hby at_25) rfl (by decide) (by decide) (by decide) ?_
      refine XS.iload X1123.here hx rfl (hb hby at_43) rfl ?_
      refine XS.iconst X1123.here hx rfl (hb hby at_45) ?_
      refine XS.icmpYes X1123.here hx rfl (pc0 := 46) (pc' := 59) rfl (hb hby at_46) rfl (by decide) (by decide) (by decide) ?_
      refine XS.iload X1123.here hx rfl (hb hby at_59) rfl ?_
      refine XS.iconst X1123.here hx rfl (hb hby at_61) ?_
      refine XS.icmpYes X1123.here hx rfl (pc0 := 62) (pc' := 90) rfl (hb hby at_62) rfl (by decide) (by decide) (by decide) ?_
      exact kq)
    obtain ⟨T1223, h1223, X1223, e1223, E1223, A1223, D1223, -, st1223⟩ := newO X1123 hx hZ hown (wd hw 6 rfl) (wd hw 7 rfl) (wd hw 8 rfl) e1123 (g := (mkF m 90 #[.val (.int p0), .val (.int p1), .val (.int p2), .val (.int p3), .val (.int 3), .val (.int u0), .val (.int u1), .val (.int u2), .unset, .unset] [])) rfl (hb hby at_90) (by decide) (by decide)
    obtain ⟨b1223, g1223⟩ : ∃ z, z = h0.size := ⟨_, rfl⟩
    rw [← g1223] at A1223 D1223 st1223
    have sz_b1223 : h0.size ≤ b1223 := Nat.le_trans (Nat.le_refl h0.size) (Nat.le_of_eq g1223.symm)
    have g_b1223 : n0 ≤ b1223 := Nat.le_trans Z0 (Nat.le_of_eq g1223.symm)
    have F1223_value : Fld Z h1223 b1223 "java/lang/String" "value" "[B" .null := D1223 (Or.inr (wd hw 22 rfl)) (ty := (.array .byte)) (by decide)
    have F1223_coder : Fld Z h1223 b1223 "java/lang/String" "coder" "B" (.int 0) := D1223 (Or.inr (wd hw 23 rfl)) (ty := .byte) (by decide)
    have G1224 : Go p e below A0 (T1223.setTop (mkF m 93 #[.val (.int p0), .val (.int p1), .val (.int p2), .val (.int p3), .val (.int 3), .val (.int u0), .val (.int u1), .val (.int u2), .unset, .unset] [(.ref b1223)])) := fun tq kq => G1222 tq (st1223 _ kq)
    have G1225 : Go p e below A0 (T1223.setTop (mkF m 95 #[.val (.int p0), .val (.int p1), .val (.int p2), .val (.int p3), .val (.int 3), .val (.int u0), .val (.int u1), .val (.int u2), .unset, .unset] [(.int 3), (.ref b1223), (.ref b1223)])) := fun tq kq => G1224 tq (by
      refine XS.dup X1223.here hx rfl (hb hby at_93) rfl rfl ?_
      refine XS.iconst X1223.here hx rfl (hb hby at_94) ?_
      exact kq)
    have f1227 := (Nat.le_trans Z0 E1223.1)
    obtain ⟨T1226, h1226, k1226, X1226, e1226, E1226, A1226, st1226⟩ := newP X1223 hx hZ (wd hw 9 rfl) e1223 (g := (mkF m 95 #[.val (.int p0), .val (.int p1), .val (.int p2), .val (.int p3), .val (.int 3), .val (.int u0), .val (.int u1), .val (.int u2), .unset, .unset] [(.int 3), (.ref b1223), (.ref b1223)])) rfl (hb hby at_95) rfl (by decide) (cap := 3) (by decide) (by decide) (by decide) (by decide)
    obtain ⟨b1226, g1226⟩ : ∃ z, z = h1223.size := ⟨_, rfl⟩
    rw [← g1226] at A1226 st1226
    have f1228 := (Nat.le_trans (Nat.le_refl h0.size) E1223.1)
    have sz_b1226 : h0.size ≤ b1226 := Nat.le_trans f1228 (Nat.le_of_eq g1226.symm)
    have g_b1226 : n0 ≤ b1226 := Nat.le_trans f1227 (Nat.le_of_eq g1226.symm)
    have lt_b1223_b1226 : b1223 < b1226 := Nat.lt_of_lt_of_le A1223.lt (Nat.le_of_eq g1226.symm)
    have V1226 : Arv Z h1226 b1226 k1226 .char (3 : Int32) [(.int 0), (.int 0), (.int 0)] (.int 0) := (Arv.new A1226 (by decide)).pad (pad_rep [] (.int 0) 3)
    have G1229 : Go p e below A0 (T1226.setTop (mkF m 97 #[.val (.int p0), .val (.int p1), .val (.int p2), .val (.int p3), .val (.int 3), .val (.int u0), .val (.int u1), .val (.int u2), .unset, .unset] [(.ref b1226), (.ref b1223), (.ref b1223)])) := fun tq kq => G1225 tq (st1226 _ kq)
    have G1230 : Go p e below A0 (T1226.setTop (mkF m 101 #[.val (.int p0), .val (.int p1), .val (.int p2), .val (.int p3), .val (.int 3), .val (.int u0), .val (.int u1), .val (.int u2), .unset, .unset] [(.int u0), (.int 0), (.ref b1226), (.ref b1226), (.ref b1223), (.ref b1223)])) := fun tq kq => G1229 tq (by
      refine XS.dup X1226.here hx rfl (hb hby at_97) rfl rfl ?_
      refine XS.iconst X1226.here hx rfl (hb hby at_98) ?_
      refine XS.iload X1226.here hx rfl (hb hby at_99) rfl ?_
      exact kq)
    obtain ⟨cl1231, Ar1231, q1231, S1231, M1231, H1231, Gf1231⟩ := id V1226
    have hi1232 : ¬ ((0 : Int32) < 0 ∨ cl1231.slots.size ≤ ((0 : Int32)).toNatClampNeg) := (inb_of S1231 ⟨by decide, by decide⟩)
    obtain ⟨T1233, h1233, X1233, e1233, W1233, st1233⟩ := stC X1226 hx hZ e1226 Ar1231 (j := (0 : Int32)) hi1232 (g := (mkF m 101 #[.val (.int p0), .val (.int p1), .val (.int p2), .val (.int p3), .val (.int 3), .val (.int u0), .val (.int u1), .val (.int u2), .unset, .unset] [(.int u0), (.int 0), (.ref b1226), (.ref b1226), (.ref b1223), (.ref b1223)])) rfl rfl (hb hby at_101)
    rw [show nar .char u0 = u0 from own_nC ru0] at W1233
    have N1233 := Fr.snoc X1233 N1123 g_b1226
    have V1233 := Arv.set Ar1231 q1231 S1231 M1231 H1231 Gf1231 (own_fC ru0) W1233 0 rfl (Nat.le_of_ble_eq_true rfl)
    have V1233' : Arv Z h1233 b1226 k1226 .char (3 : Int32) [(.int u0), (.int 0), (.int 0)] (.int 0) := by exact V1233
    have G1234 : Go p e below A0 (T1233.setTop (mkF m 102 #[.val (.int p0), .val (.int p1), .val (.int p2), .val (.int p3), .val (.int 3), .val (.int u0), .val (.int u1), .val (.int u2), .unset, .unset] [(.ref b1226), (.ref b1223), (.ref b1223)])) := fun tq kq => G1230 tq (st1233 _ kq)
    have G1235 : Go p e below A0 (T1233.setTop (mkF m 106 #[.val (.int p0), .val (.int p1), .val (.int p2), .val (.int p3), .val (.int 3), .val (.int u0), .val (.int u1), .val (.int u2), .unset, .unset] [(.int u1), (.int 1), (.ref b1226), (.ref b1226), (.ref b1223), (.ref b1223)])) := fun tq kq => G1234 tq (by
      refine XS.dup X1233.here hx rfl (hb hby at_102) rfl rfl ?_
      refine XS.iconst X1233.here hx rfl (hb hby at_103) ?_
      refine XS.iload X1233.here hx rfl (hb hby at_104) rfl ?_
      exact kq)
    obtain ⟨cl1236, Ar1236, q1236, S1236, M1236, H1236, Gf1236⟩ := id V1233'
    have hi1237 : ¬ ((1 : Int32) < 0 ∨ cl1236.slots.size ≤ ((1 : Int32)).toNatClampNeg) := (inb_of S1236 ⟨by decide, by decide⟩)
    obtain ⟨T1238, h1238, X1238, e1238, W1238, st1238⟩ := stC X1233 hx hZ e1233 Ar1236 (j := (1 : Int32)) hi1237 (g := (mkF m 106 #[.val (.int p0), .val (.int p1), .val (.int p2), .val (.int p3), .val (.int 3), .val (.int u0), .val (.int u1), .val (.int u2), .unset, .unset] [(.int u1), (.int 1), (.ref b1226), (.ref b1226), (.ref b1223), (.ref b1223)])) rfl rfl (hb hby at_106)
    rw [show nar .char u1 = u1 from own_nC ru1] at W1238
    have N1238 := Fr.snoc X1238 N1233 g_b1226
    have V1238 := Arv.set Ar1236 q1236 S1236 M1236 H1236 Gf1236 (own_fC ru1) W1238 1 rfl (Nat.le_of_ble_eq_true rfl)
    have V1238' : Arv Z h1238 b1226 k1226 .char (3 : Int32) [(.int u0), (.int u1), (.int 0)] (.int 0) := by exact V1238
    have G1239 : Go p e below A0 (T1238.setTop (mkF m 107 #[.val (.int p0), .val (.int p1), .val (.int p2), .val (.int p3), .val (.int 3), .val (.int u0), .val (.int u1), .val (.int u2), .unset, .unset] [(.ref b1226), (.ref b1223), (.ref b1223)])) := fun tq kq => G1235 tq (st1238 _ kq)
    have G1240 : Go p e below A0 (T1238.setTop (mkF m 111 #[.val (.int p0), .val (.int p1), .val (.int p2), .val (.int p3), .val (.int 3), .val (.int u0), .val (.int u1), .val (.int u2), .unset, .unset] [(.int u2), (.int 2), (.ref b1226), (.ref b1226), (.ref b1223), (.ref b1223)])) := fun tq kq => G1239 tq (by
      refine XS.dup X1238.here hx rfl (hb hby at_107) rfl rfl ?_
      refine XS.iconst X1238.here hx rfl (hb hby at_108) ?_
      refine XS.iload X1238.here hx rfl (hb hby at_109) rfl ?_
      exact kq)
    obtain ⟨cl1241, Ar1241, q1241, S1241, M1241, H1241, Gf1241⟩ := id V1238'
    have hi1242 : ¬ ((2 : Int32) < 0 ∨ cl1241.slots.size ≤ ((2 : Int32)).toNatClampNeg) := (inb_of S1241 ⟨by decide, by decide⟩)
    obtain ⟨T1243, h1243, X1243, e1243, W1243, st1243⟩ := stC X1238 hx hZ e1238 Ar1241 (j := (2 : Int32)) hi1242 (g := (mkF m 111 #[.val (.int p0), .val (.int p1), .val (.int p2), .val (.int p3), .val (.int 3), .val (.int u0), .val (.int u1), .val (.int u2), .unset, .unset] [(.int u2), (.int 2), (.ref b1226), (.ref b1226), (.ref b1223), (.ref b1223)])) rfl rfl (hb hby at_111)
    rw [show nar .char u2 = u2 from own_nC ru2] at W1243
    have N1243 := Fr.snoc X1243 N1238 g_b1226
    have V1243 := Arv.set Ar1241 q1241 S1241 M1241 H1241 Gf1241 (own_fC ru2) W1243 2 rfl (Nat.le_of_ble_eq_true rfl)
    have V1243' : Arv Z h1243 b1226 k1226 .char (3 : Int32) [(.int u0), (.int u1), (.int u2)] (.int 0) := by exact V1243
    have G1244 : Go p e below A0 (T1243.setTop (mkF m 112 #[.val (.int p0), .val (.int p1), .val (.int p2), .val (.int p3), .val (.int 3), .val (.int u0), .val (.int u1), .val (.int u2), .unset, .unset] [(.ref b1226), (.ref b1223), (.ref b1223)])) := fun tq kq => G1240 tq (st1243 _ kq)
    have f1246 := (Nat.le_trans (Nat.le_trans (Nat.le_trans (Nat.le_trans f1227 E1226.1) (Keep.of_wr W1233).1) (Keep.of_wr W1238).1) (Keep.of_wr W1243).1)
    have f1247 := ((((A1223.ext E1226).wr W1233).wr W1238).wr W1243)
    have f1248 := ((((F1223_value.ext E1226).other W1233 (Or.inl (Nat.ne_of_lt lt_b1223_b1226))).other W1238 (Or.inl (Nat.ne_of_lt lt_b1223_b1226))).other W1243 (Or.inl (Nat.ne_of_lt lt_b1223_b1226)))
    have f1249 := ((((F1223_coder.ext E1226).other W1233 (Or.inl (Nat.ne_of_lt lt_b1223_b1226))).other W1238 (Or.inl (Nat.ne_of_lt lt_b1223_b1226))).other W1243 (Or.inl (Nat.ne_of_lt lt_b1223_b1226)))
    have f1250 := (((((hold.ext E1223).ext E1226).wr W1233 g_b1226).wr W1238 g_b1226).wr W1243 g_b1226)
    obtain ⟨_, _, ⟨T1245, L1245, k1245, n1245⟩, -, X1245, ⟨Lc1245, hQ1245, l1245, y1245, z1245⟩, st1245⟩ := X1243.specialBack hx (y := (⟨"java/lang/String", "<init>", "([C)V"⟩ : MethodName)) rfl hown (mvT hZ (wd hw 10 rfl)) (mvT hZ (wd hw 11 rfl)) (mvT hZ (wd hw 12 rfl)) (by decide) (backOf (W := 1) (rmH3 l Z a0 hw [] b1223 b1226 k1226 u0 u1 u2 cs fo h1243 n0 f1246 f1247 g_b1223 f1248 f1249 V1243' (Ne.symm (Nat.ne_of_lt lt_b1223_b1226)) ru0 ru1 ru2 hCS hcs hSF hfo hAD hHI hLO f1250) hZ (wd hw 12 rfl) (wd hw 8 rfl) (by decide) (by decide)) (g := (mkF m 112 #[.val (.int p0), .val (.int p1), .val (.int p2), .val (.int p3), .val (.int 3), .val (.int u0), .val (.int u1), .val (.int u2), .unset, .unset] [(.ref b1226), (.ref b1223), (.ref b1223)])) rfl (by rw [hml]; rfl) (Steps.refl _) (a := b1223) (argsL := [(.ref b1226)]) (rest := [(.ref b1223)]) (lenOf pd_19 rfl) rfl (by show 2 * 0 + _ ≤ _; exact Nat.le_of_eq rfl) (hb hby at_112) (fun _ _ => ⟨rfl, e1243, (by decide : 2 + 2 ≤ _), (by decide : 7 + 9 ≤ _)⟩)
    dsimp only [Pt.U, Pt.locs, Pt.cells, Pt.slots] at X1245 l1245 y1245 z1245 st1245 hQ1245
    obtain rfl : k1245 = 4 := y1245
    obtain rfl : n1245 = 16 := z1245
    obtain ⟨rfl, N1245q, K1245, sn1245⟩ := hQ1245
    have N1245 : Fr n0 L1245 := by rw [l1245]; exact Fr.app N1243 N1245q
    have G1251 : Go p e below A0 (T1245.setTop (mkF m 115 #[.val (.int p0), .val (.int p1), .val (.int p2), .val (.int p3), .val (.int 3), .val (.int u0), .val (.int u1), .val (.int u2), .unset, .unset] [(.ref b1223)])) := fun tq kq => G1244 tq (st1245.trans kq)
    have G1252 : Go p e below A0 (T1245.setTop (mkF m 117 #[.val (.int p0), .val (.int p1), .val (.int p2), .val (.int p3), .val (.int 3), .val (.int u0), .val (.int u1), .val (.int u2), .val (.ref b1223), .unset] [])) := fun tq kq => G1251 tq (by
      refine XS.astore X1245.here hx rfl (hb hby at_115) rfl rfl (l' := #[.val (.int p0), .val (.int p1), .val (.int p2), .val (.int p3), .val (.int 3), .val (.int u0), .val (.int u1), .val (.int u2), .val (.ref b1223), .unset]) rfl ?_
      exact kq)
    obtain ⟨T1253, Lc1253, ex_, X1253, e1253, N1253, hG1253, G1253⟩ : ∃ (T1253 : State) (Lc1253 : List Loc) (ex_ : Int32), Stand p l e room_1 s m #[(.int p0), (.int p1), (.int p2), (.int p3)] below meth c T1253 Lc1253 4 16 ∧ T1253.heap = T1245.heap ∧ Fr n0 Lc1253 ∧ (ex_ = own_b (own_ld u0 ∧ own_tl u1 ∧ own_tl u2)) ∧ Go p e below A0 (T1253.setTop (mkF m 164 #[.val (.int p0), .val (.int p1), .val (.int p2), .val (.int p3), .val (.int 3), .val (.int u0), .val (.int u1), .val (.int u2), .val (.ref b1223), .unset] [(.int ex_)])) := by
      have G1254 : Go p e below A0 (T1245.setTop (mkF m 125 #[.val (.int p0), .val (.int p1), .val (.int p2), .val (.int p3), .val (.int 3), .val (.int u0), .val (.int u1), .val (.int u2), .val (.ref b1223), .unset] [(.int u0)])) := fun tq kq => G1252 tq (by
        refine XS.iload X1245.here hx rfl (hb hby at_117) rfl ?_
        refine XS.iconst X1245.here hx rfl (hb hby at_119) ?_
        refine XS.icmpNo X1245.here hx rfl (hb hby at_120) rfl (by decide) ?_
        refine XS.iload X1245.here hx rfl (hb hby at_123) rfl ?_
        exact kq)
      have f1256 := (Nat.le_trans f1246 K1245.1)
      obtain ⟨_, _, ⟨T1255, L1255, k1255, n1255⟩, -, X1255, ⟨Lc1255, hQ1255, l1255, y1255, z1255⟩, st1255⟩ := Jvm.LawKit.callS X1245 hx (y := (⟨"com/example/role_delegation/roledelegation/NamesIsValidPinLaw", "alnum", "(C)Z"⟩ : MethodName)) hown (mvT hZ (wd hw 48 rfl)) (mvT hZ (wd hw 49 rfl)) (mvT hZ (wd hw 2 rfl)) (mvT hZ (wd hw 50 rfl)) (by decide) (backOf (W := 0) (rmAL l Z a0 hw [] u0 T1245.heap n0 f1256 ru0) hZ (wd hw 50 rfl) (wd hw 2 rfl) (by decide) (by decide)) (g := (mkF m 125 #[.val (.int p0), .val (.int p1), .val (.int p2), .val (.int p3), .val (.int 3), .val (.int u0), .val (.int u1), .val (.int u2), .val (.ref b1223), .unset] [(.int u0)])) rfl (by rw [hml]; rfl) (argsL := [(.int u0)]) (rest := []) (lenOf pd_7 rfl) rfl (by show 2 * 0 + _ ≤ _; exact Nat.le_of_eq rfl) (hb hby at_125) (fun _ _ => ⟨rfl, rfl, (by decide : 4 + 0 ≤ _), (by decide : 16 + 0 ≤ _)⟩)
      dsimp only [Pt.U, Pt.locs, Pt.cells, Pt.slots] at X1255 l1255 y1255 z1255 st1255 hQ1255
      obtain rfl : k1255 = 4 := y1255
      obtain rfl : n1255 = 16 := z1255
      obtain ⟨rfl, N1255q, e1255⟩ := hQ1255
      have N1255 : Fr n0 L1255 := by rw [l1255]; exact Fr.app N1245 N1255q
      have G1257 : Go p e below A0 (T1255.setTop (mkF m 128 #[.val (.int p0), .val (.int p1), .val (.int p2), .val (.int p3), .val (.int 3), .val (.int u0), .val (.int u1), .val (.int u2), .val (.ref b1223), .unset] [(.int (own_b (own_ld u0)))])) := fun tq kq => G1254 tq (st1255 _ kq)
      by_cases hc1258 : (own_ld u0)
      · have G1259 : Go p e below A0 (T1255.setTop (mkF m 139 #[.val (.int p0), .val (.int p1), .val (.int p2), .val (.int p3), .val (.int 3), .val (.int u0), .val (.int u1), .val (.int u2), .val (.ref b1223), .unset] [(.int u1)])) := fun tq kq => G1257 tq (by
          refine XS.ifNo X1255.here hx rfl (hb hby at_128) rfl ((if0 _ _).trans (feq (own_b1 hc1258)).1) ?_
          refine XS.iload X1255.here hx rfl (hb hby at_131) rfl ?_
          refine XS.iconst X1255.here hx rfl (hb hby at_133) ?_
          refine XS.icmpNo X1255.here hx rfl (hb hby at_134) rfl (by decide) ?_
          refine XS.iload X1255.here hx rfl (hb hby at_137) rfl ?_
          exact kq)
        obtain ⟨_, _, ⟨T1260, L1260, k1260, n1260⟩, -, X1260, ⟨Lc1260, hQ1260, l1260, y1260, z1260⟩, st1260⟩ := Jvm.LawKit.callS X1255 hx (y := (⟨"com/example/role_delegation/roledelegation/NamesIsValidPinLaw", "tail", "(C)Z"⟩ : MethodName)) hown (mvT hZ (wd hw 86 rfl)) (mvT hZ (wd hw 87 rfl)) (mvT hZ (wd hw 2 rfl)) (mvT hZ (wd hw 88 rfl)) (by decide) (backOf (W := 0) (rmTL l Z a0 hw [] u1 T1245.heap n0 f1256 ru1) hZ (wd hw 88 rfl) (wd hw 2 rfl) (by decide) (by decide)) (g := (mkF m 139 #[.val (.int p0), .val (.int p1), .val (.int p2), .val (.int p3), .val (.int 3), .val (.int u0), .val (.int u1), .val (.int u2), .val (.ref b1223), .unset] [(.int u1)])) rfl (by rw [hml]; rfl) (argsL := [(.int u1)]) (rest := []) (lenOf pd_7 rfl) rfl (by show 2 * 0 + _ ≤ _; exact Nat.le_of_eq rfl) (hb hby at_139) (fun _ _ => ⟨rfl, e1255, (by decide : 4 + 0 ≤ _), (by decide : 16 + 0 ≤ _)⟩)
        dsimp only [Pt.U, Pt.locs, Pt.cells, Pt.slots] at X1260 l1260 y1260 z1260 st1260 hQ1260
        obtain rfl : k1260 = 4 := y1260
        obtain rfl : n1260 = 16 := z1260
        obtain ⟨rfl, N1260q, e1260⟩ := hQ1260
        have N1260 : Fr n0 L1260 := by rw [l1260]; exact Fr.app N1255 N1260q
        have G1261 : Go p e below A0 (T1260.setTop (mkF m 142 #[.val (.int p0), .val (.int p1), .val (.int p2), .val (.int p3), .val (.int 3), .val (.int u0), .val (.int u1), .val (.int u2), .val (.ref b1223), .unset] [(.int (own_b (own_tl u1)))])) := fun tq kq => G1259 tq (st1260 _ kq)
        by_cases hc1262 : (own_tl u1)
        · have G1263 : Go p e below A0 (T1260.setTop (mkF m 153 #[.val (.int p0), .val (.int p1), .val (.int p2), .val (.int p3), .val (.int 3), .val (.int u0), .val (.int u1), .val (.int u2), .val (.ref b1223), .unset] [(.int u2)])) := fun tq kq => G1261 tq (by
            refine XS.ifNo X1260.here hx rfl (hb hby at_142) rfl ((if0 _ _).trans (feq (own_b1 hc1262)).1) ?_
            refine XS.iload X1260.here hx rfl (hb hby at_145) rfl ?_
            refine XS.iconst X1260.here hx rfl (hb hby at_147) ?_
            refine XS.icmpNo X1260.here hx rfl (hb hby at_148) rfl (by decide) ?_
            refine XS.iload X1260.here hx rfl (hb hby at_151) rfl ?_
            exact kq)
          obtain ⟨_, _, ⟨T1264, L1264, k1264, n1264⟩, -, X1264, ⟨Lc1264, hQ1264, l1264, y1264, z1264⟩, st1264⟩ := Jvm.LawKit.callS X1260 hx (y := (⟨"com/example/role_delegation/roledelegation/NamesIsValidPinLaw", "tail", "(C)Z"⟩ : MethodName)) hown (mvT hZ (wd hw 86 rfl)) (mvT hZ (wd hw 87 rfl)) (mvT hZ (wd hw 2 rfl)) (mvT hZ (wd hw 88 rfl)) (by decide) (backOf (W := 0) (rmTL l Z a0 hw [] u2 T1245.heap n0 f1256 ru2) hZ (wd hw 88 rfl) (wd hw 2 rfl) (by decide) (by decide)) (g := (mkF m 153 #[.val (.int p0), .val (.int p1), .val (.int p2), .val (.int p3), .val (.int 3), .val (.int u0), .val (.int u1), .val (.int u2), .val (.ref b1223), .unset] [(.int u2)])) rfl (by rw [hml]; rfl) (argsL := [(.int u2)]) (rest := []) (lenOf pd_7 rfl) rfl (by show 2 * 0 + _ ≤ _; exact Nat.le_of_eq rfl) (hb hby at_153) (fun _ _ => ⟨rfl, e1260, (by decide : 4 + 0 ≤ _), (by decide : 16 + 0 ≤ _)⟩)
          dsimp only [Pt.U, Pt.locs, Pt.cells, Pt.slots] at X1264 l1264 y1264 z1264 st1264 hQ1264
          obtain rfl : k1264 = 4 := y1264
          obtain rfl : n1264 = 16 := z1264
          obtain ⟨rfl, N1264q, e1264⟩ := hQ1264
          have N1264 : Fr n0 L1264 := by rw [l1264]; exact Fr.app N1260 N1264q
          have G1265 : Go p e below A0 (T1264.setTop (mkF m 156 #[.val (.int p0), .val (.int p1), .val (.int p2), .val (.int p3), .val (.int 3), .val (.int u0), .val (.int u1), .val (.int u2), .val (.ref b1223), .unset] [(.int (own_b (own_tl u2)))])) := fun tq kq => G1263 tq (st1264 _ kq)
          by_cases hc1266 : (own_tl u2)
          · have G1267 : Go p e below A0 (T1264.setTop (mkF m 164 #[.val (.int p0), .val (.int p1), .val (.int p2), .val (.int p3), .val (.int 3), .val (.int u0), .val (.int u1), .val (.int u2), .val (.ref b1223), .unset] [(.int 1)])) := fun tq kq => G1265 tq (by
              refine XS.ifNo X1264.here hx rfl (hb hby at_156) rfl ((if0 _ _).trans (feq (own_b1 hc1266)).1) ?_
              refine XS.iconst X1264.here hx rfl (hb hby at_159) ?_
              refine XS.goto X1264.here hx rfl (pc0 := 160) (pc' := 164) rfl (hb hby at_160) (by decide) (by decide) ?_
              exact kq)
            exact ⟨T1264, _, (1 : Int32), X1264, e1264, N1264, (by simp only [own_b, hc1258, hc1262, hc1266, not_true_eq_false, not_false_eq_true, if_true, if_false, or_true, true_or, or_false, false_or, and_true, true_and, and_false, false_and, and_self, or_self]), G1267⟩
          · have G1268 : Go p e below A0 (T1264.setTop (mkF m 164 #[.val (.int p0), .val (.int p1), .val (.int p2), .val (.int p3), .val (.int 3), .val (.int u0), .val (.int u1), .val (.int u2), .val (.ref b1223), .unset] [(.int 0)])) := fun tq kq => G1265 tq (by
              refine XS.ifYes X1264.here hx rfl (pc0 := 156) (pc' := 163) rfl (hb hby at_156) rfl ((if0 _ _).trans (teq (own_b0 hc1266)).1) (by decide) (by decide) ?_
              refine XS.iconst X1264.here hx rfl (hb hby at_163) ?_
              exact kq)
            exact ⟨T1264, _, (0 : Int32), X1264, e1264, N1264, (by simp only [own_b, hc1258, hc1262, hc1266, not_true_eq_false, not_false_eq_true, if_true, if_false, or_true, true_or, or_false, false_or, and_true, true_and, and_false, false_and, and_self, or_self]), G1268⟩
        · have G1269 : Go p e below A0 (T1260.setTop (mkF m 164 #[.val (.int p0), .val (.int p1), .val (.int p2), .val (.int p3), .val (.int 3), .val (.int u0), .val (.int u1), .val (.int u2), .val (.ref b1223), .unset] [(.int 0)])) := fun tq kq => G1261 tq (by
            refine XS.ifYes X1260.here hx rfl (pc0 := 142) (pc' := 163) rfl (hb hby at_142) rfl ((if0 _ _).trans (teq (own_b0 hc1262)).1) (by decide) (by decide) ?_
            refine XS.iconst X1260.here hx rfl (hb hby at_163) ?_
            exact kq)
          exact ⟨T1260, _, (0 : Int32), X1260, e1260, N1260, (by simp only [own_b, hc1258, hc1262, not_true_eq_false, not_false_eq_true, if_true, if_false, or_true, true_or, or_false, false_or, and_true, true_and, and_false, false_and, and_self, or_self]), G1269⟩
      · have G1270 : Go p e below A0 (T1255.setTop (mkF m 164 #[.val (.int p0), .val (.int p1), .val (.int p2), .val (.int p3), .val (.int 3), .val (.int u0), .val (.int u1), .val (.int u2), .val (.ref b1223), .unset] [(.int 0)])) := fun tq kq => G1257 tq (by
          refine XS.ifYes X1255.here hx rfl (pc0 := 128) (pc' := 163) rfl (hb hby at_128) rfl ((if0 _ _).trans (teq (own_b0 hc1258)).1) (by decide) (by decide) ?_
          refine XS.iconst X1255.here hx rfl (hb hby at_163) ?_
          exact kq)
        exact ⟨T1255, _, (0 : Int32), X1255, e1255, N1255, (by simp only [own_b, hc1258, not_true_eq_false, not_false_eq_true, if_true, if_false, or_true, true_or, or_false, false_or, and_true, true_and, and_false, false_and, and_self, or_self]), G1270⟩
    subst hG1253
    have G1271 : Go p e below A0 (T1253.setTop (mkF m 168 #[.val (.int p0), .val (.int p1), .val (.int p2), .val (.int p3), .val (.int 3), .val (.int u0), .val (.int u1), .val (.int u2), .val (.ref b1223), .val (.int (own_b (own_ld u0 ∧ own_tl u1 ∧ own_tl u2)))] [(.ref b1223)])) := fun tq kq => G1253 tq (by
      refine XS.istore X1253.here hx rfl (hb hby at_164) rfl (l' := #[.val (.int p0), .val (.int p1), .val (.int p2), .val (.int p3), .val (.int 3), .val (.int u0), .val (.int u1), .val (.int u2), .val (.ref b1223), .val (.int (own_b (own_ld u0 ∧ own_tl u1 ∧ own_tl u2)))]) rfl ?_
      refine XS.aload X1253.here hx rfl (hb hby at_166) rfl rfl ?_
      exact kq)
    have f1273 := (Nat.le_trans f1246 K1245.1)
    have f1274 := (f1247.keep K1245)
    have f1275 := (f1250.keep K1245 (allS g_b1223 all0))
    obtain ⟨_, _, ⟨T1272, L1272, k1272, n1272⟩, -, X1272, ⟨Lc1272, hQ1272, l1272, y1272, z1272⟩, st1272⟩ := Jvm.LawKit.callS X1253 hx (y := (⟨"com/example/role_delegation/roledelegation/Names", "isValid", "(Ljava/lang/String;)Z"⟩ : MethodName)) hown (mvT hZ (wd hw 28 rfl)) (mvT hZ (wd hw 29 rfl)) (mvT hZ (wd hw 30 rfl)) (mvT hZ (wd hw 31 rfl)) (by decide) (backOf (W := 0) (rmV3 l Z a0 hw [] b1223 u0 u1 u2 cs fo T1245.heap n0 f1273 f1274 sn1245 ru0 ru1 ru2 hCS hcs hSF hfo hAD hHI hLO f1275) hZ (wd hw 31 rfl) (wd hw 30 rfl) (by decide) (by decide)) (g := (mkF m 168 #[.val (.int p0), .val (.int p1), .val (.int p2), .val (.int p3), .val (.int 3), .val (.int u0), .val (.int u1), .val (.int u2), .val (.ref b1223), .val (.int (own_b (own_ld u0 ∧ own_tl u1 ∧ own_tl u2)))] [(.ref b1223)])) rfl (by rw [hml]; rfl) (argsL := [(.ref b1223)]) (rest := []) (lenOf pd_20 rfl) rfl (by show 2 * 0 + _ ≤ _; exact Nat.le_of_eq rfl) (hb hby at_168) (fun _ _ => ⟨rfl, e1253, (by decide : 4 + 0 ≤ _), (by decide : 16 + 0 ≤ _)⟩)
    dsimp only [Pt.U, Pt.locs, Pt.cells, Pt.slots] at X1272 l1272 y1272 z1272 st1272 hQ1272
    obtain rfl : k1272 = 4 := y1272
    obtain rfl : n1272 = 16 := z1272
    obtain ⟨rfl, N1272q, e1272⟩ := hQ1272
    have N1272 : Fr n0 L1272 := by rw [l1272]; exact Fr.app N1253 N1272q
    have G1276 : Go p e below A0 (T1272.setTop (mkF m 171 #[.val (.int p0), .val (.int p1), .val (.int p2), .val (.int p3), .val (.int 3), .val (.int u0), .val (.int u1), .val (.int u2), .val (.ref b1223), .val (.int (own_b (own_ld u0 ∧ own_tl u1 ∧ own_tl u2)))] [(.int (own_b (own_ld u0 ∧ own_tl u1 ∧ own_tl u2)))])) := fun tq kq => G1271 tq (st1272 _ kq)
    have G1277 : Go p e below A0 (T1272.setTop (mkF m 181 #[.val (.int p0), .val (.int p1), .val (.int p2), .val (.int p3), .val (.int 3), .val (.int u0), .val (.int u1), .val (.int u2), .val (.ref b1223), .val (.int (own_b (own_ld u0 ∧ own_tl u1 ∧ own_tl u2)))] [(.int 1)])) := fun tq kq => G1276 tq (by
      refine XS.iload X1272.here hx rfl (hb hby at_171) rfl ?_
      refine XS.icmpNo X1272.here hx rfl (hb hby at_173) rfl (teq (rfl : (own_b (own_ld u0 ∧ own_tl u1 ∧ own_tl u2)) = (own_b (own_ld u0 ∧ own_tl u1 ∧ own_tl u2)))).2 ?_
      refine XS.iconst X1272.here hx rfl (hb hby at_176) ?_
      refine XS.goto X1272.here hx rfl (pc0 := 177) (pc' := 181) rfl (hb hby at_177) (by decide) (by decide) ?_
      exact kq)
    have f1278 := (Nat.le_trans (Nat.le_trans (Nat.le_trans (Nat.le_trans (Nat.le_trans (Nat.le_trans (Nat.zero_le h0.size) E1223.1) E1226.1) (Keep.of_wr W1233).1) (Keep.of_wr W1238).1) (Keep.of_wr W1243).1) K1245.1)
    obtain ⟨fs, hr, hrun, hended, hRW⟩ := X1272.leaveW (s := s) (vm₁ := s.vm) hS (by rw [e1272]; exact f1278) (v := some (.int (nar .boolean (1 : Int32)))) (fun h => by rw [Bd.returns] at h; cases h)
    refine ⟨_, _, (by rw [← hA0]; exact G1277 _ (retN X1272 hx (t := .boolean) Bd.returns (by simp) (hb hby at_181) hr)), hrun, hended, _, _, rfl, ?_, hRW.1, hRW.2.1, hRW.2.2.1, hRW.2.2.2.mono (by decide) (by decide)⟩
    exact ⟨rfl, N1272⟩
set_option maxRecDepth 65536 in
set_option maxHeartbeats 40000000 in
theorem comes_1 {Post : Tables → Env → Array Value → State → Outcome → State → Prop} (hpost : ∀ tb e args s v u, (limb_1_1.after args s (.returned v) u = true ∧ limb_1_2.after args s (.returned v) u = true ∧ True) → ReturnedEndW s (.returned v) u (Jvm.fieldLocs frame_1_writes args s ++ Jvm.arrayLocs frame_1_arrays args s ++ Jvm.staticLocs frame_1_statics s) 24 1152 → Post tb e args s (.returned v) u) :
    ArmFor flags0 classFile x code maxLocals ret World_1 tables_1 room_1 Calls_1 rest_1 Pre_1 Post := by
  intro l hfl _ _ p e ha hc hk s m args below hf hA hF happ hP
  obtain ⟨hcalls, hrest, hpre⟩ := hP
  obtain ⟨-, -, -, hnamed, -, -, -, hat⟩ := (Spec.applies_iff hf).mp happ
  obtain ⟨hg, hn⟩ := and_e (Cond.before_iff.mp (show (Jvm.Cond.and given_1 narrow_1).before args s = true from hpre))
  obtain ⟨g1, g2⟩ := and_e hg
  obtain ⟨g3, g4⟩ := and_e g2
  obtain ⟨g5, g6⟩ := and_e g4
  obtain ⟨g7, g8⟩ := and_e g6
  obtain ⟨w0, w1, w2, w3, rfl⟩ : ∃ w0 w1 w2 w3 : Value, args = #[w0, w1, w2, w3] := by
    have hs : args.size = 4 := by simpa [Cond.value, given_1] using g1
    obtain ⟨L⟩ := args
    match L, hs with
    | [w0, w1, w2, w3], _ => exact ⟨w0, w1, w2, w3, rfl⟩
  have hw := fun d (hd : d ∈ tables_1) => atoms_spec (ws := Jvm.Cond.code x code maxLocals ret :: tables_1) hat d (List.mem_cons_of_mem _ hd)
  have hfit : Fit s := fun {y c} hc i hi => by
    obtain ⟨ha, rfl⟩ := Array.getElem?_eq_some_iff.mp hc
    have q := List.all_eq_true.mp ((Array.all_eq_true_iff_forall_mem.mp hF) _ (Array.getElem_mem ha)) i (List.mem_range.mpr hi)
    simpa [Array.getElem?_eq_getElem hi] using q
  obtain ⟨hsets, hown0⟩ := atoms_of _ (rest_1_c_eq ▸ (show rest_1_c.before _ s = true from hrest))
  have hr0 := Cond.before_iff.mp hown0
  obtain ⟨i0, ei0⟩ := is_v g3
  obtain rfl : w0 = (.int i0) := Option.some.inj ei0
  obtain ⟨i1, ei1⟩ := is_v g5
  obtain rfl : w1 = (.int i1) := Option.some.inj ei1
  obtain ⟨i2, ei2⟩ := is_v g7
  obtain rfl : w2 = (.int i2) := Option.some.inj ei2
  obtain ⟨i3, ei3⟩ := is_v g8
  obtain rfl : w3 = (.int i3) := Option.some.inj ei3
  obtain ⟨cs, ecs⟩ := is_v (Cond.before_iff.mp (hsets _ (List.mem_of_getElem? (i := 1) rfl)))
  have hCS : Sta s s.heap "java/lang/String" "COMPACT_STRINGS" "Z" (.int cs) := Sta.start ecs (Or.inl (hsets _ (List.mem_of_getElem? (i := 0) rfl)))
  obtain ⟨fo, efo, hfo⟩ := isR_v (Cond.before_iff.mp (hsets _ (List.mem_of_getElem? (i := 8) rfl)))
  have hSF : Sta s s.heap "jdk/internal/util/Preconditions" "SIOOBE_FORMATTER" "Ljava/util/function/BiFunction;" fo := Sta.start efo (Or.inl (hsets _ (List.mem_of_getElem? (i := 7) rfl)))
  have hcw := (hsets _ (List.mem_of_getElem? (i := 2) rfl))
  have hcs : ¬ cs = (0 : Int32) := by
    have q := Cond.before_iff.mp hcw
    simp only [Cond.value, ecs, Term.int_eval] at q
    simpa using q
  have hAD : Sta s s.heap "java/lang/StringUTF16" "$assertionsDisabled" "Z" (.int 1) := Sta.start (own_eqI (Cond.before_iff.mp (hsets _ (List.mem_of_getElem? (i := 12) rfl)))) (Or.inl (hsets _ (List.mem_of_getElem? (i := 11) rfl)))
  have hHI : Sta s s.heap "java/lang/StringUTF16" "HI_BYTE_SHIFT" "I" (.int 0) := Sta.start (own_eqI (Cond.before_iff.mp (hsets _ (List.mem_of_getElem? (i := 15) rfl)))) (Or.inl (hsets _ (List.mem_of_getElem? (i := 14) rfl)))
  have hLO : Sta s s.heap "java/lang/StringUTF16" "LO_BYTE_SHIFT" "I" (.int 8) := Sta.start (own_eqI (Cond.before_iff.mp (hsets _ (List.mem_of_getElem? (i := 18) rfl)))) (Or.inl (hsets _ (List.mem_of_getElem? (i := 17) rfl)))
  have hCH : CHv s consts_1 s.vm s.heap := CHv.start (EW.cons (text := "") (wd hw 20 rfl) (by decide) EW.nil) (fun p hp => hcalls.1 p hp) hcw (wd hw 21 rfl) (wd hw 7 rfl)
  obtain ⟨n, o, h1, h2, h3, _, L, rfl, ⟨rfl, N⟩, hq⟩ := rm0 l s _ hw tables_1 i0 i1 i2 i3 cs fo s.heap s.heap.size (Nat.le_refl _) hCS hcs hSF hfo hAD hHI hLO (Old.start s) p e ha hc hk s m _ below hf ((Spec.applies_iff_loose hf).mp happ).1 ⟨rfl, State.Warmed39.refl s, rfl, hCH⟩ trivial
  refine ⟨n, _, h1, h2, h3, hpost _ _ _ _ _ _ ⟨Cond.after_iff.mpr rfl, Cond.after_iff.mpr (eq_i res_at (Term.int_eval (1)) rfl), trivial⟩ ⟨hq.1, hq.2.1, hq.2.2.1, (hq.2.2.2.sift fun y hy => Or.inr (N y hy)).mono (by decide) (by decide)⟩⟩
theorem main_1_1 : Claimed_1_1 := comes_1 fun _ _ _ _ _ _ h hF => ⟨h.1, hF⟩
theorem main_1_2 : Claimed_1_2 := comes_1 fun _ _ _ _ _ _ h hF => ⟨h.2.1, hF⟩
end Jvm.Pilot.@@N@@
namespace Jvm.Pilot.@@N@@
open Jvm Jvm.ClassFile Sem Op Lib Jvm.Free Jvm.Stand Jvm.Pilot.@@N@@.Jvm.D
/-! MADE BY PROGRAM (witnessworld.py) out of the Statement's table words and the real class files: 20 classes; the members and pool entries that the words name. The judged class is class 1, her method 4. -/
namespace start1
open Jvm.ClassFile
def u (s : String) : CpInfo := .utf8 (stringToUtf16 s)
/-- a pool by its gaps: so many unusable entries, then the entry; so many at the end -/
def gap : Nat → List CpInfo → List CpInfo
  | 0, r => r
  | n + 1, r => .unusable :: gap n r
def poolList (es : List (Nat × CpInfo)) (last : Nat) : List CpInfo := es.foldr (fun e r => gap e.1 (e.2 :: r)) (gap last [])
def pool (es : List (Nat × CpInfo)) (last : Nat) : Array CpInfo := ⟨poolList es last⟩
def fileOf (pool : Array CpInfo) (this : Nat) (attrs : Array Attribute := #[]) (ms : Array MethodInfo := #[]) (fl : Nat := 33) (sup : Nat := 0) (ifs : Array Nat := #[]) (fds : Array FieldInfo := #[]) : ClassFile where
  minorVersion := 0
  majorVersion := 65
  constantPool := pool
  accessFlags := fl
  thisClass := this
  superClass := sup
  interfaces := ifs
  fields := fds
  methods := ms
  attributes := attrs
def plain (name : String) (sup : Option ClassId) : Class where
  name := name
  kind := .ordinary
  loader := none
  accessFlags := 33
  super := sup
  interfaces := #[]
  cf := none
  fields := #[]
  methods := #[]
  instanceTypes := #[]
  staticTypes := #[]
  resolved := #[]
  callSites := []
  init := .initialized
  statics := none
  mirror := none

def pool0 : Array CpInfo := pool [(5, u "<init>"), (0, u "()V"), (1, .class_ 10), (1, u "java/lang/Object")] 113

def k0c0 : Code := { maxStack := 0, maxLocals := 1, code := object_method_1_code, exceptionTable := #[], attributes := #[] }
def k0m0 : Method := { name := "<init>", desc := "()V", sig := { parameters := [], returnType := none }, accessFlags := 1, code := some k0c0 }
/-- java/lang/Object -/
def k0 : Class := { plain "java/lang/Object" none with
  accessFlags := 33
  interfaces := #[]
  cf := some (fileOf pool0 8 #[] #[{ accessFlags := 1, nameIndex := 5, descriptorIndex := 6, attributes := #[] }] 33 0 #[] #[])
  fields := #[]
  methods := #[k0m0]
  instanceTypes := #[]
  staticTypes := #[]
  resolved := Array.replicate 124 none
  statics := none }

def pool1 : Array CpInfo := pool [(2, .class_ 4), (1, u "java/lang/Object"), (0, u "<init>"), (0, u "()V"), (0, .integer 65536), (0, .integer 65535), (0, .methodref 10 11), (0, .class_ 12), (0, .nameAndType 13 14), (0, u "com/example/role_delegation/roledelegation/NamesIsValidPinLaw"), (0, u "alnum"), (0, u "(C)Z"), (0, .methodref 10 16), (0, .nameAndType 17 18), (0, u "draw"), (0, u "(I)C"), (0, .class_ 20), (0, u "java/lang/String"), (0, .methodref 19 22), (0, .nameAndType 5 23), (0, u "([C)V"), (0, .methodref 19 25), (0, .nameAndType 26 27), (0, u "valueOf"), (0, u "(C)Ljava/lang/String;"), (0, .methodref 10 29), (0, .nameAndType 30 14), (0, u "tail"), (0, .methodref 32 33), (0, .class_ 34), (0, .nameAndType 35 36), (0, u "com/example/role_delegation/roledelegation/Names"), (0, u "isValid"), (0, u "(Ljava/lang/String;)Z"), (3, u "law"), (0, u "(IIII)Z")] 2

def k1m0 : Method := { name := "<init>", desc := "()V", sig := { parameters := [], returnType := none }, accessFlags := 2, code := none }
def k1c1 : Code := { maxStack := 2, maxLocals := 1, code := method_2_code, exceptionTable := #[], attributes := #[] }
def k1m1 : Method := { name := "draw", desc := "(I)C", sig := { parameters := [.int], returnType := some .char }, accessFlags := 10, code := some k1c1 }
def k1c2 : Code := { maxStack := 2, maxLocals := 2, code := method_3_code, exceptionTable := #[], attributes := #[] }
def k1m2 : Method := { name := "alnum", desc := "(C)Z", sig := { parameters := [.char], returnType := some .boolean }, accessFlags := 10, code := some k1c2 }
def k1c3 : Code := { maxStack := 2, maxLocals := 1, code := method_4_code, exceptionTable := #[], attributes := #[] }
def k1m3 : Method := { name := "tail", desc := "(C)Z", sig := { parameters := [.char], returnType := some .boolean }, accessFlags := 10, code := some k1c3 }
def k1c4 : Code := { maxStack := 6, maxLocals := 10, code := code, exceptionTable := #[], attributes := #[] }
def k1m4 : Method := { name := "law", desc := "(IIII)Z", sig := { parameters := [.int, .int, .int, .int], returnType := some .boolean }, accessFlags := 9, code := some k1c4 }
/-- com/example/role_delegation/roledelegation/NamesIsValidPinLaw -/
def k1 : Class := { plain "com/example/role_delegation/roledelegation/NamesIsValidPinLaw" (some 0) with
  accessFlags := 49
  interfaces := #[]
  cf := some (fileOf pool1 10 #[] #[{ accessFlags := 2, nameIndex := 5, descriptorIndex := 6, attributes := #[] }, { accessFlags := 10, nameIndex := 17, descriptorIndex := 18, attributes := #[] }, { accessFlags := 10, nameIndex := 13, descriptorIndex := 14, attributes := #[] }, { accessFlags := 10, nameIndex := 30, descriptorIndex := 14, attributes := #[] }, { accessFlags := 9, nameIndex := 40, descriptorIndex := 41, attributes := #[] }] 49 2 #[] #[])
  fields := #[]
  methods := #[k1m0, k1m1, k1m2, k1m3, k1m4]
  instanceTypes := #[]
  staticTypes := #[]
  resolved := Array.replicate 44 none
  statics := none }

def pool2 : Array CpInfo := pool [(1, .class_ 2), (0, u "java/io/Serializable"), (0, .class_ 4), (0, u "java/lang/Object")] 2

/-- java/io/Serializable -/
def k2 : Class := { plain "java/io/Serializable" (some 0) with
  accessFlags := 1537
  interfaces := #[]
  cf := some (fileOf pool2 1 #[] #[] 1537 3 #[] #[])
  fields := #[]
  methods := #[]
  instanceTypes := #[]
  staticTypes := #[]
  resolved := Array.replicate 7 none
  statics := none }

def pool3 : Array CpInfo := pool [(1, .class_ 2), (0, u "java/lang/Comparable"), (0, .class_ 4), (0, u "java/lang/Object")] 7

/-- java/lang/Comparable -/
def k3 : Class := { plain "java/lang/Comparable" (some 0) with
  accessFlags := 1537
  interfaces := #[]
  cf := some (fileOf pool3 1 #[] #[] 1537 3 #[] #[])
  fields := #[]
  methods := #[]
  instanceTypes := #[]
  staticTypes := #[]
  resolved := Array.replicate 12 none
  statics := none }

def pool4 : Array CpInfo := pool [(2, .class_ 4), (1, u "java/lang/CharSequence"), (42, .class_ 48), (0, u "java/lang/CharSequence$1CodePointIterator"), (10, .class_ 60), (0, u "java/lang/CharSequence$1CharIterator"), (5, .class_ 67), (0, u "java/lang/Object")] 63

/-- java/lang/CharSequence -/
def k4 : Class := { plain "java/lang/CharSequence" (some 0) with
  accessFlags := 1537
  interfaces := #[]
  cf := some (fileOf pool4 2 #[.nestMembers #[47, 59]] #[] 1537 66 #[] #[])
  fields := #[]
  methods := #[]
  instanceTypes := #[]
  staticTypes := #[]
  resolved := Array.replicate 131 none
  statics := none }

def pool5 : Array CpInfo := pool [(1, .class_ 2), (0, u "java/lang/constant/Constable"), (0, .class_ 4), (0, u "java/lang/Object")] 6

/-- java/lang/constant/Constable -/
def k5 : Class := { plain "java/lang/constant/Constable" (some 0) with
  accessFlags := 1537
  interfaces := #[]
  cf := some (fileOf pool5 1 #[] #[] 1537 3 #[] #[])
  fields := #[]
  methods := #[]
  instanceTypes := #[]
  staticTypes := #[]
  resolved := Array.replicate 11 none
  statics := none }

def pool6 : Array CpInfo := pool [(1, .class_ 2), (0, u "java/lang/constant/ConstantDesc"), (0, .class_ 4), (0, u "java/lang/Object")] 32

/-- java/lang/constant/ConstantDesc -/
def k6 : Class := { plain "java/lang/constant/ConstantDesc" (some 0) with
  accessFlags := 1537
  interfaces := #[]
  cf := some (fileOf pool6 1 #[] #[] 1537 3 #[] #[])
  fields := #[]
  methods := #[]
  instanceTypes := #[]
  staticTypes := #[]
  resolved := Array.replicate 37 none
  statics := none }

def pool7 : Array CpInfo := pool [(1, .methodref 2 3), (0, .class_ 4), (0, .nameAndType 5 6), (0, u "java/lang/Object"), (0, u "<init>"), (0, u "()V"), (0, .string 8), (0, u ""), (0, .fieldref 10 11), (0, .class_ 12), (0, .nameAndType 13 14), (0, u "java/lang/String"), (0, u "value"), (0, u "[B"), (0, .fieldref 10 16), (0, .nameAndType 17 18), (0, u "coder"), (0, u "B"), (2, u "hash"), (0, u "I"), (2, u "hashIsZero"), (0, u "Z"), (0, .methodref 10 28), (0, .nameAndType 5 29), (0, u "([CIILjava/lang/Void;)V"), (8, .fieldref 10 39), (0, .nameAndType 40 26), (0, u "COMPACT_STRINGS"), (1, .class_ 44), (1, u "java/lang/StringUTF16"), (0, u "compress"), (1, .methodref 42 48), (0, .nameAndType 49 50), (0, u "coderFromArrayLen"), (0, u "([BI)B"), (2, u "toBytes"), (53, .class_ 109), (1, u "java/lang/StringLatin1"), (32, u "()Z"), (34, .methodref 42 178), (0, .nameAndType 45 179), (0, u "([CII)[B"), (29, .methodref 10 210), (0, .nameAndType 5 211), (0, u "([BB)V"), (122, u "()I"), (0, .methodref 10 336), (0, .nameAndType 17 337), (0, u "()B"), (25, u "([BI)C"), (5, u "(C)Z"), (21, u "(II)V"), (35, u "(I)C"), (64, .methodref 10 493), (0, .nameAndType 494 142), (0, u "isLatin1"), (0, .methodref 107 496), (0, .nameAndType 497 363), (0, u "charAt"), (0, .methodref 42 496), (2, u "checkIndex"), (5, u "length"), (67, .class_ 576), (0, u "java/lang/CharSequence"), (22, u "CASE_INSENSITIVE_ORDER"), (0, u "Ljava/util/Comparator;"), (91, u "isEmpty"), (89, u "valueOf"), (0, u "(C)Ljava/lang/String;"), (226, u "([C)V"), (4, .methodref 107 1016), (0, .nameAndType 1017 369), (0, u "canEncode"), (0, .methodref 107 1019), (0, .nameAndType 53 1020), (0, u "(C)[B"), (0, .methodref 42 1019), (31, .fieldref 1054 1055), (0, .class_ 1056), (0, .nameAndType 1057 1058), (0, u "jdk/internal/util/Preconditions"), (0, u "SIOOBE_FORMATTER"), (0, u "Ljava/util/function/BiFunction;"), (0, .methodref 1054 1060), (0, .nameAndType 501 1061), (0, u "(IILjava/util/function/BiFunction;)I"), (39, u "serialPersistentFields"), (0, u "[Ljava/io/ObjectStreamField;"), (0, .class_ 1104), (0, u "java/lang/String$CaseInsensitiveComparator"), (1, .class_ 1107), (0, u "java/io/Serializable"), (0, .class_ 1109), (0, u "java/lang/Comparable"), (0, .class_ 1111), (0, u "java/lang/constant/Constable"), (0, .class_ 1113), (0, u "java/lang/constant/ConstantDesc"), (2, u "serialVersionUID"), (0, u "J"), (3, u "REPL"), (0, u "C"), (2, u "LATIN1"), (1, u "UTF16")] 323

def k7m0 : Method := { name := "<init>", desc := "()V", sig := { parameters := [], returnType := none }, accessFlags := 1, code := none }
def k7c1 : Code := { maxStack := 5, maxLocals := 2, code := jdk_42_method_3_code, exceptionTable := #[], attributes := #[] }
def k7m1 : Method := { name := "<init>", desc := "([C)V", sig := { parameters := [(.array .char)], returnType := none }, accessFlags := 1, code := some k7c1 }
def k7c2 : Code := { maxStack := 2, maxLocals := 1, code := jdk_42_method_54_code, exceptionTable := #[], attributes := #[] }
def k7m2 : Method := { name := "length", desc := "()I", sig := { parameters := [], returnType := some .int }, accessFlags := 1, code := some k7c2 }
def k7c3 : Code := { maxStack := 1, maxLocals := 1, code := jdk_42_method_55_code, exceptionTable := #[], attributes := #[] }
def k7m3 : Method := { name := "isEmpty", desc := "()Z", sig := { parameters := [], returnType := some .boolean }, accessFlags := 1, code := some k7c3 }
def k7c4 : Code := { maxStack := 2, maxLocals := 2, code := jdk_42_method_56_code, exceptionTable := #[], attributes := #[] }
def k7m4 : Method := { name := "charAt", desc := "(I)C", sig := { parameters := [.int], returnType := some .char }, accessFlags := 1, code := some k7c4 }
def k7c5 : Code := { maxStack := 4, maxLocals := 1, code := jdk_42_method_139_code, exceptionTable := #[], attributes := #[] }
def k7m5 : Method := { name := "valueOf", desc := "(C)Ljava/lang/String;", sig := { parameters := [.char], returnType := some (.object "java/lang/String") }, accessFlags := 9, code := some k7c5 }
def k7c6 : Code := { maxStack := 4, maxLocals := 6, code := jdk_42_method_149_code, exceptionTable := #[], attributes := #[] }
def k7m6 : Method := { name := "<init>", desc := "([CIILjava/lang/Void;)V", sig := { parameters := [(.array .char), .int, .int, (.object "java/lang/Void")], returnType := none }, accessFlags := 2, code := some k7c6 }
def k7c7 : Code := { maxStack := 2, maxLocals := 3, code := jdk_42_method_151_code, exceptionTable := #[], attributes := #[] }
def k7m7 : Method := { name := "<init>", desc := "([BB)V", sig := { parameters := [(.array .byte), .byte], returnType := none }, accessFlags := 0, code := some k7c7 }
def k7c8 : Code := { maxStack := 1, maxLocals := 1, code := jdk_42_method_152_code, exceptionTable := #[], attributes := #[] }
def k7m8 : Method := { name := "coder", desc := "()B", sig := { parameters := [], returnType := some .byte }, accessFlags := 0, code := some k7c8 }
def k7c9 : Code := { maxStack := 1, maxLocals := 1, code := jdk_42_method_154_code, exceptionTable := #[], attributes := #[] }
def k7m9 : Method := { name := "isLatin1", desc := "()Z", sig := { parameters := [], returnType := some .boolean }, accessFlags := 0, code := some k7c9 }
def k7c10 : Code := { maxStack := 3, maxLocals := 2, code := jdk_42_method_155_code, exceptionTable := #[], attributes := #[] }
def k7m10 : Method := { name := "checkIndex", desc := "(II)V", sig := { parameters := [.int, .int], returnType := none }, accessFlags := 8, code := some k7c10 }
/-- java/lang/String -/
def k7 : Class := { plain "java/lang/String" (some 0) with
  accessFlags := 49
  interfaces := #[2, 3, 4, 5, 6]
  cf := some (fileOf pool7 10 #[.nestMembers #[1103]] #[{ accessFlags := 1, nameIndex := 5, descriptorIndex := 6, attributes := #[] }, { accessFlags := 1, nameIndex := 5, descriptorIndex := 1010, attributes := #[] }, { accessFlags := 1, nameIndex := 507, descriptorIndex := 334, attributes := #[] }, { accessFlags := 1, nameIndex := 692, descriptorIndex := 142, attributes := #[] }, { accessFlags := 1, nameIndex := 497, descriptorIndex := 427, attributes := #[] }, { accessFlags := 9, nameIndex := 782, descriptorIndex := 783, attributes := #[] }, { accessFlags := 2, nameIndex := 5, descriptorIndex := 29, attributes := #[] }, { accessFlags := 0, nameIndex := 5, descriptorIndex := 211, attributes := #[] }, { accessFlags := 0, nameIndex := 17, descriptorIndex := 337, attributes := #[] }, { accessFlags := 0, nameIndex := 494, descriptorIndex := 142, attributes := #[] }, { accessFlags := 8, nameIndex := 501, descriptorIndex := 391, attributes := #[] }] 49 2 #[1106, 1108, 575, 1110, 1112] #[{ accessFlags := 18, nameIndex := 13, descriptorIndex := 14, attributes := #[] }, { accessFlags := 18, nameIndex := 17, descriptorIndex := 18, attributes := #[] }, { accessFlags := 2, nameIndex := 21, descriptorIndex := 22, attributes := #[] }, { accessFlags := 2, nameIndex := 25, descriptorIndex := 26, attributes := #[] }, { accessFlags := 26, nameIndex := 1116, descriptorIndex := 1117, attributes := #[] }, { accessFlags := 24, nameIndex := 40, descriptorIndex := 26, attributes := #[] }, { accessFlags := 26, nameIndex := 1101, descriptorIndex := 1102, attributes := #[] }, { accessFlags := 26, nameIndex := 1121, descriptorIndex := 1122, attributes := #[] }, { accessFlags := 25, nameIndex := 599, descriptorIndex := 600, attributes := #[] }, { accessFlags := 24, nameIndex := 1125, descriptorIndex := 18, attributes := #[] }, { accessFlags := 24, nameIndex := 1127, descriptorIndex := 18, attributes := #[] }])
  fields := #[{ name := "value", type := (.array .byte), accessFlags := 18, slot := 0, constantValue := 0 }, { name := "coder", type := .byte, accessFlags := 18, slot := 1, constantValue := 0 }, { name := "hash", type := .int, accessFlags := 2, slot := 2, constantValue := 0 }, { name := "hashIsZero", type := .boolean, accessFlags := 2, slot := 3, constantValue := 0 }, { name := "serialVersionUID", type := .long, accessFlags := 26, slot := 0, constantValue := 0 }, { name := "COMPACT_STRINGS", type := .boolean, accessFlags := 24, slot := 1, constantValue := 0 }, { name := "serialPersistentFields", type := (.array (.object "java/io/ObjectStreamField")), accessFlags := 26, slot := 2, constantValue := 0 }, { name := "REPL", type := .char, accessFlags := 26, slot := 3, constantValue := 0 }, { name := "CASE_INSENSITIVE_ORDER", type := (.object "java/util/Comparator"), accessFlags := 25, slot := 4, constantValue := 0 }, { name := "LATIN1", type := .byte, accessFlags := 24, slot := 5, constantValue := 0 }, { name := "UTF16", type := .byte, accessFlags := 24, slot := 6, constantValue := 0 }]
  methods := #[k7m0, k7m1, k7m2, k7m3, k7m4, k7m5, k7m6, k7m7, k7m8, k7m9, k7m10]
  instanceTypes := #[(.array .byte), .byte, .int, .boolean]
  staticTypes := #[.long, .boolean, (.array (.object "java/io/ObjectStreamField")), .char, (.object "java/util/Comparator"), .byte, .byte]
  resolved := Array.replicate 1451 none
  statics := some 0 }

def pool8 : Array CpInfo := pool [(2, .class_ 4), (1, u "java/lang/Object"), (0, u "<init>"), (0, u "()V"), (0, .methodref 8 9), (0, .class_ 10), (0, .nameAndType 11 12), (0, u "java/lang/String"), (0, u "isEmpty"), (0, u "()Z"), (0, .methodref 8 14), (0, .nameAndType 15 16), (0, u "length"), (0, u "()I"), (0, .class_ 18), (0, u "com/example/role_delegation/roledelegation/Names"), (0, .methodref 8 20), (0, .nameAndType 21 22), (0, u "charAt"), (0, u "(I)C"), (0, .methodref 17 24), (0, .nameAndType 25 26), (0, u "isLetterOrDigit"), (0, u "(C)Z"), (0, u "MAX_LENGTH"), (0, u "I"), (4, u "isValid"), (0, u "(Ljava/lang/String;)Z")] 3

def k8m0 : Method := { name := "<init>", desc := "()V", sig := { parameters := [], returnType := none }, accessFlags := 2, code := none }
def k8c1 : Code := { maxStack := 2, maxLocals := 3, code := prog_38_method_2_code, exceptionTable := #[], attributes := #[] }
def k8m1 : Method := { name := "isValid", desc := "(Ljava/lang/String;)Z", sig := { parameters := [(.object "java/lang/String")], returnType := some .boolean }, accessFlags := 8, code := some k8c1 }
def k8c2 : Code := { maxStack := 2, maxLocals := 1, code := prog_38_method_3_code, exceptionTable := #[], attributes := #[] }
def k8m2 : Method := { name := "isLetterOrDigit", desc := "(C)Z", sig := { parameters := [.char], returnType := some .boolean }, accessFlags := 10, code := some k8c2 }
/-- com/example/role_delegation/roledelegation/Names -/
def k8 : Class := { plain "com/example/role_delegation/roledelegation/Names" (some 0) with
  accessFlags := 32
  interfaces := #[]
  cf := some (fileOf pool8 17 #[] #[{ accessFlags := 2, nameIndex := 5, descriptorIndex := 6, attributes := #[] }, { accessFlags := 8, nameIndex := 33, descriptorIndex := 34, attributes := #[] }, { accessFlags := 10, nameIndex := 25, descriptorIndex := 26, attributes := #[] }] 32 2 #[] #[{ accessFlags := 24, nameIndex := 27, descriptorIndex := 28, attributes := #[] }])
  fields := #[{ name := "MAX_LENGTH", type := .int, accessFlags := 24, slot := 0, constantValue := 0 }]
  methods := #[k8m0, k8m1, k8m2]
  instanceTypes := #[]
  staticTypes := #[.int]
  resolved := Array.replicate 38 none
  statics := none }

def pool9 : Array CpInfo := pool [(3, .class_ 4), (0, u "java/lang/String"), (1, .class_ 8), (1, u "java/lang/Object"), (0, u "<init>"), (0, u "()V"), (0, .methodref 12 13), (0, .class_ 14), (0, .nameAndType 15 16), (0, u "java/lang/StringUTF16"), (0, u "newBytesLength"), (0, u "(I)I"), (3, .integer 1073741823), (23, .fieldref 12 45), (0, .nameAndType 46 47), (0, u "$assertionsDisabled"), (0, u "Z"), (0, .methodref 12 49), (0, .nameAndType 50 51), (0, u "length"), (0, u "([B)I"), (7, .fieldref 12 60), (0, .nameAndType 61 62), (0, u "HI_BYTE_SHIFT"), (0, u "I"), (0, .fieldref 12 64), (0, .nameAndType 65 62), (0, u "LO_BYTE_SHIFT"), (1, .methodref 12 68), (0, .nameAndType 69 70), (0, u "checkIndex"), (0, u "(I[B)V"), (0, .methodref 12 72), (0, .nameAndType 73 74), (0, u "getChar"), (0, u "([BI)C"), (32, .methodref 12 108), (0, .nameAndType 109 110), (0, u "newBytesFor"), (0, u "(I)[B"), (0, .methodref 12 112), (0, .nameAndType 113 114), (0, u "putChar"), (0, u "([BII)V"), (0, .methodref 12 116), (0, .nameAndType 117 118), (0, u "compress"), (0, u "([CI[BII)I"), (0, .methodref 12 120), (0, .nameAndType 121 122), (0, u "toBytes"), (0, u "([CII)[B"), (138, u "coderFromArrayLen"), (0, u "([BI)B"), (106, .class_ 371), (1, u "java/lang/StringUTF16$LinesSpliterator"), (20, u "charAt"), (21, .methodref 3 415), (0, .nameAndType 69 416), (0, u "(II)V"), (13, u "MAX_LENGTH"), (44, u "(C)[B"), (151, .class_ 628), (0, u "java/lang/StringUTF16$CodePointsSpliterator"), (0, .class_ 630), (0, u "java/lang/StringUTF16$CharsSpliterator")] 4

def k9m0 : Method := { name := "<init>", desc := "()V", sig := { parameters := [], returnType := none }, accessFlags := 0, code := none }
def k9c1 : Code := { maxStack := 1, maxLocals := 1, code := jdk_52_method_2_code, exceptionTable := #[], attributes := #[] }
def k9m1 : Method := { name := "newBytesFor", desc := "(I)[B", sig := { parameters := [.int], returnType := some (.array .byte) }, accessFlags := 9, code := some k9c1 }
def k9c2 : Code := { maxStack := 4, maxLocals := 1, code := jdk_52_method_3_code, exceptionTable := #[], attributes := #[] }
def k9m2 : Method := { name := "newBytesLength", desc := "(I)I", sig := { parameters := [.int], returnType := some .int }, accessFlags := 9, code := some k9c2 }
def k9c3 : Code := { maxStack := 4, maxLocals := 3, code := jdk_52_method_4_code, exceptionTable := #[], attributes := #[] }
def k9m3 : Method := { name := "putChar", desc := "([BII)V", sig := { parameters := [(.array .byte), .int, .int], returnType := none }, accessFlags := 8, code := some k9c3 }
def k9c4 : Code := { maxStack := 3, maxLocals := 2, code := jdk_52_method_5_code, exceptionTable := #[], attributes := #[] }
def k9m4 : Method := { name := "getChar", desc := "([BI)C", sig := { parameters := [(.array .byte), .int], returnType := some .char }, accessFlags := 8, code := some k9c4 }
def k9c5 : Code := { maxStack := 2, maxLocals := 1, code := jdk_52_method_6_code, exceptionTable := #[], attributes := #[] }
def k9m5 : Method := { name := "length", desc := "([B)I", sig := { parameters := [(.array .byte)], returnType := some .int }, accessFlags := 9, code := some k9c5 }
def k9c6 : Code := { maxStack := 4, maxLocals := 5, code := jdk_52_method_14_code, exceptionTable := #[], attributes := #[] }
def k9m6 : Method := { name := "toBytes", desc := "([CII)[B", sig := { parameters := [(.array .char), .int, .int], returnType := some (.array .byte) }, accessFlags := 9, code := some k9c6 }
def k9c7 : Code := { maxStack := 2, maxLocals := 2, code := jdk_52_method_15_code, exceptionTable := #[], attributes := #[] }
def k9m7 : Method := { name := "coderFromArrayLen", desc := "([BI)B", sig := { parameters := [(.array .byte), .int], returnType := some .byte }, accessFlags := 8, code := some k9c7 }
def k9c8 : Code := { maxStack := 5, maxLocals := 6, code := jdk_52_method_16_code, exceptionTable := #[], attributes := #[] }
def k9m8 : Method := { name := "compress", desc := "([CII)[B", sig := { parameters := [(.array .char), .int, .int], returnType := some (.array .byte) }, accessFlags := 9, code := some k9c8 }
def k9c9 : Code := { maxStack := 3, maxLocals := 7, code := jdk_52_method_21_code, exceptionTable := #[], attributes := #[] }
def k9m9 : Method := { name := "compress", desc := "([CI[BII)I", sig := { parameters := [(.array .char), .int, (.array .byte), .int, .int], returnType := some .int }, accessFlags := 9, code := some k9c9 }
def k9c10 : Code := { maxStack := 3, maxLocals := 2, code := jdk_52_method_24_code, exceptionTable := #[], attributes := #[] }
def k9m10 : Method := { name := "toBytes", desc := "(C)[B", sig := { parameters := [.char], returnType := some (.array .byte) }, accessFlags := 9, code := some k9c10 }
def k9c11 : Code := { maxStack := 2, maxLocals := 2, code := jdk_52_method_83_code, exceptionTable := #[], attributes := #[] }
def k9m11 : Method := { name := "charAt", desc := "([BI)C", sig := { parameters := [(.array .byte), .int], returnType := some .char }, accessFlags := 9, code := some k9c11 }
def k9c12 : Code := { maxStack := 2, maxLocals := 2, code := jdk_52_method_91_code, exceptionTable := #[], attributes := #[] }
def k9m12 : Method := { name := "checkIndex", desc := "(I[B)V", sig := { parameters := [.int, (.array .byte)], returnType := none }, accessFlags := 9, code := some k9c12 }
/-- java/lang/StringUTF16 -/
def k9 : Class := { plain "java/lang/StringUTF16" (some 0) with
  accessFlags := 48
  interfaces := #[]
  cf := some (fileOf pool9 12 #[.nestMembers #[627, 629, 369]] #[{ accessFlags := 0, nameIndex := 9, descriptorIndex := 10, attributes := #[] }, { accessFlags := 9, nameIndex := 109, descriptorIndex := 110, attributes := #[] }, { accessFlags := 9, nameIndex := 15, descriptorIndex := 16, attributes := #[] }, { accessFlags := 8, nameIndex := 113, descriptorIndex := 114, attributes := #[] }, { accessFlags := 8, nameIndex := 73, descriptorIndex := 74, attributes := #[] }, { accessFlags := 9, nameIndex := 50, descriptorIndex := 51, attributes := #[] }, { accessFlags := 9, nameIndex := 121, descriptorIndex := 122, attributes := #[] }, { accessFlags := 8, nameIndex := 261, descriptorIndex := 262, attributes := #[] }, { accessFlags := 9, nameIndex := 117, descriptorIndex := 122, attributes := #[] }, { accessFlags := 9, nameIndex := 117, descriptorIndex := 118, attributes := #[] }, { accessFlags := 9, nameIndex := 121, descriptorIndex := 475, attributes := #[] }, { accessFlags := 9, nameIndex := 392, descriptorIndex := 74, attributes := #[] }, { accessFlags := 9, nameIndex := 69, descriptorIndex := 70, attributes := #[] }] 48 6 #[] #[{ accessFlags := 26, nameIndex := 61, descriptorIndex := 62, attributes := #[] }, { accessFlags := 26, nameIndex := 65, descriptorIndex := 62, attributes := #[] }, { accessFlags := 24, nameIndex := 430, descriptorIndex := 62, attributes := #[] }, { accessFlags := 4120, nameIndex := 46, descriptorIndex := 47, attributes := #[] }])
  fields := #[{ name := "HI_BYTE_SHIFT", type := .int, accessFlags := 26, slot := 0, constantValue := 0 }, { name := "LO_BYTE_SHIFT", type := .int, accessFlags := 26, slot := 1, constantValue := 0 }, { name := "MAX_LENGTH", type := .int, accessFlags := 24, slot := 2, constantValue := 0 }, { name := "$assertionsDisabled", type := .boolean, accessFlags := 4120, slot := 3, constantValue := 0 }]
  methods := #[k9m0, k9m1, k9m2, k9m3, k9m4, k9m5, k9m6, k9m7, k9m8, k9m9, k9m10, k9m11, k9m12]
  instanceTypes := #[]
  staticTypes := #[.int, .int, .int, .boolean]
  resolved := Array.replicate 635 none
  statics := some 1 }

def pool10 : Array CpInfo := pool [(1, .class_ 2), (0, u "java/lang/String"), (1, .class_ 6), (1, u "java/lang/Object"), (0, u "<init>"), (0, u "()V"), (0, .methodref 1 10), (0, .nameAndType 11 12), (0, u "checkIndex"), (0, u "(II)V"), (1, .class_ 16), (1, u "java/lang/StringLatin1"), (36, u "([BI)C"), (36, u "canEncode"), (14, u "(C)Z"), (15, u "$assertionsDisabled"), (0, u "Z"), (98, .class_ 223), (1, u "java/lang/StringLatin1$LinesSpliterator"), (28, u "charAt"), (127, u "toBytes"), (1, u "(C)[B"), (7, .class_ 391), (0, u "java/lang/StringLatin1$CharsSpliterator")] 3

def k10m0 : Method := { name := "<init>", desc := "()V", sig := { parameters := [], returnType := none }, accessFlags := 0, code := none }
def k10c1 : Code := { maxStack := 2, maxLocals := 2, code := jdk_43_method_2_code, exceptionTable := #[], attributes := #[] }
def k10m1 : Method := { name := "charAt", desc := "([BI)C", sig := { parameters := [(.array .byte), .int], returnType := some .char }, accessFlags := 9, code := some k10c1 }
def k10c2 : Code := { maxStack := 2, maxLocals := 1, code := jdk_43_method_3_code, exceptionTable := #[], attributes := #[] }
def k10m2 : Method := { name := "canEncode", desc := "(C)Z", sig := { parameters := [.char], returnType := some .boolean }, accessFlags := 9, code := some k10c2 }
def k10c3 : Code := { maxStack := 4, maxLocals := 1, code := jdk_43_method_46_code, exceptionTable := #[], attributes := #[] }
def k10m3 : Method := { name := "toBytes", desc := "(C)[B", sig := { parameters := [.char], returnType := some (.array .byte) }, accessFlags := 9, code := some k10c3 }
/-- java/lang/StringLatin1 -/
def k10 : Class := { plain "java/lang/StringLatin1" (some 0) with
  accessFlags := 48
  interfaces := #[]
  cf := some (fileOf pool10 14 #[.nestMembers #[390, 221]] #[{ accessFlags := 0, nameIndex := 7, descriptorIndex := 8, attributes := #[] }, { accessFlags := 9, nameIndex := 252, descriptorIndex := 53, attributes := #[] }, { accessFlags := 9, nameIndex := 90, descriptorIndex := 105, attributes := #[] }, { accessFlags := 9, nameIndex := 380, descriptorIndex := 382, attributes := #[] }] 48 4 #[] #[{ accessFlags := 4120, nameIndex := 121, descriptorIndex := 122, attributes := #[] }])
  fields := #[{ name := "$assertionsDisabled", type := .boolean, accessFlags := 4120, slot := 0, constantValue := 0 }]
  methods := #[k10m0, k10m1, k10m2, k10m3]
  instanceTypes := #[]
  staticTypes := #[.boolean]
  resolved := Array.replicate 395 none
  statics := none }

def pool11 : Array CpInfo := pool [(2, .class_ 4), (1, u "java/lang/Object"), (0, u "<init>"), (0, u "()V"), (17, .class_ 26), (1, u "jdk/internal/util/Preconditions"), (6, u "checkIndex"), (21, .class_ 56), (0, u "jdk/internal/util/Preconditions$4"), (57, .class_ 115), (0, u "jdk/internal/util/Preconditions$1"), (7, u "SIOOBE_FORMATTER"), (0, u "Ljava/util/function/BiFunction;"), (0, .class_ 126), (0, u "jdk/internal/util/Preconditions$2"), (3, u "AIOOBE_FORMATTER"), (0, .class_ 132), (0, u "jdk/internal/util/Preconditions$3"), (3, u "IOOBE_FORMATTER"), (41, u "(IILjava/util/function/BiFunction;)I")] 15

def k11m0 : Method := { name := "<init>", desc := "()V", sig := { parameters := [], returnType := none }, accessFlags := 1, code := none }
def k11c1 : Code := { maxStack := 3, maxLocals := 3, code := jdk_41_method_11_code, exceptionTable := #[], attributes := #[] }
def k11m1 : Method := { name := "checkIndex", desc := "(IILjava/util/function/BiFunction;)I", sig := { parameters := [.int, .int, (.object "java/util/function/BiFunction")], returnType := some .int }, accessFlags := 9, code := some k11c1 }
/-- jdk/internal/util/Preconditions -/
def k11 : Class := { plain "jdk/internal/util/Preconditions" (some 0) with
  accessFlags := 33
  interfaces := #[]
  cf := some (fileOf pool11 24 #[.nestMembers #[55, 131, 125, 114]] #[{ accessFlags := 1, nameIndex := 5, descriptorIndex := 6, attributes := #[] }, { accessFlags := 9, nameIndex := 33, descriptorIndex := 178, attributes := #[] }] 33 2 #[] #[{ accessFlags := 25, nameIndex := 123, descriptorIndex := 124, attributes := #[] }, { accessFlags := 25, nameIndex := 130, descriptorIndex := 124, attributes := #[] }, { accessFlags := 25, nameIndex := 136, descriptorIndex := 124, attributes := #[] }])
  fields := #[{ name := "SIOOBE_FORMATTER", type := (.object "java/util/function/BiFunction"), accessFlags := 25, slot := 0, constantValue := 0 }, { name := "AIOOBE_FORMATTER", type := (.object "java/util/function/BiFunction"), accessFlags := 25, slot := 1, constantValue := 0 }, { name := "IOOBE_FORMATTER", type := (.object "java/util/function/BiFunction"), accessFlags := 25, slot := 2, constantValue := 0 }]
  methods := #[k11m0, k11m1]
  instanceTypes := #[]
  staticTypes := #[(.object "java/util/function/BiFunction"), (.object "java/util/function/BiFunction"), (.object "java/util/function/BiFunction")]
  resolved := Array.replicate 194 none
  statics := some 2 }

def pool12 : Array CpInfo := pool [(9, u "<init>"), (6, .class_ 18), (1, u "java/lang/Object"), (0, u "()V"), (1, .class_ 23), (1, u "jdk/internal/util/ArraysSupport"), (0, u "LOG2_ARRAY_LONG_INDEX_SCALE"), (0, u "I"), (2, u "U"), (0, u "Ljdk/internal/misc/Unsafe;"), (8, u "BIG_ENDIAN"), (0, u "Z"), (8, u "LOG2_BYTE_BIT_SIZE"), (4, u "LOG2_ARRAY_INT_INDEX_SCALE"), (54, u "JLA"), (0, u "Ljdk/internal/access/JavaLangAccess;"), (11, u "LOG2_ARRAY_BOOLEAN_INDEX_SCALE"), (9, u "LOG2_ARRAY_BYTE_INDEX_SCALE"), (5, u "LOG2_ARRAY_CHAR_INDEX_SCALE"), (5, u "LOG2_ARRAY_SHORT_INDEX_SCALE"), (18, u "LOG2_ARRAY_FLOAT_INDEX_SCALE"), (24, u "LOG2_ARRAY_DOUBLE_INDEX_SCALE"), (89, u "T_BOOLEAN"), (2, u "T_CHAR"), (1, u "T_FLOAT"), (1, u "T_DOUBLE"), (1, u "T_BYTE"), (1, u "T_SHORT"), (1, u "T_INT"), (1, u "T_LONG"), (1, u "SOFT_MAX_ARRAY_LENGTH")] 83

def k12m0 : Method := { name := "<init>", desc := "()V", sig := { parameters := [], returnType := none }, accessFlags := 2, code := none }
/-- jdk/internal/util/ArraysSupport -/
def k12 : Class := { plain "jdk/internal/util/ArraysSupport" (some 0) with
  accessFlags := 33
  interfaces := #[]
  cf := some (fileOf pool12 21 #[] #[{ accessFlags := 2, nameIndex := 9, descriptorIndex := 19, attributes := #[] }] 33 16 #[] #[{ accessFlags := 24, nameIndex := 28, descriptorIndex := 29, attributes := #[] }, { accessFlags := 26, nameIndex := 38, descriptorIndex := 39, attributes := #[] }, { accessFlags := 25, nameIndex := 121, descriptorIndex := 25, attributes := #[] }, { accessFlags := 25, nameIndex := 131, descriptorIndex := 25, attributes := #[] }, { accessFlags := 25, nameIndex := 137, descriptorIndex := 25, attributes := #[] }, { accessFlags := 25, nameIndex := 143, descriptorIndex := 25, attributes := #[] }, { accessFlags := 25, nameIndex := 53, descriptorIndex := 25, attributes := #[] }, { accessFlags := 25, nameIndex := 24, descriptorIndex := 25, attributes := #[] }, { accessFlags := 25, nameIndex := 162, descriptorIndex := 25, attributes := #[] }, { accessFlags := 25, nameIndex := 187, descriptorIndex := 25, attributes := #[] }, { accessFlags := 26, nameIndex := 48, descriptorIndex := 25, attributes := #[] }, { accessFlags := 25, nameIndex := 277, descriptorIndex := 25, attributes := #[] }, { accessFlags := 25, nameIndex := 280, descriptorIndex := 25, attributes := #[] }, { accessFlags := 25, nameIndex := 282, descriptorIndex := 25, attributes := #[] }, { accessFlags := 25, nameIndex := 284, descriptorIndex := 25, attributes := #[] }, { accessFlags := 25, nameIndex := 286, descriptorIndex := 25, attributes := #[] }, { accessFlags := 25, nameIndex := 288, descriptorIndex := 25, attributes := #[] }, { accessFlags := 25, nameIndex := 290, descriptorIndex := 25, attributes := #[] }, { accessFlags := 25, nameIndex := 292, descriptorIndex := 25, attributes := #[] }, { accessFlags := 26, nameIndex := 108, descriptorIndex := 109, attributes := #[] }, { accessFlags := 25, nameIndex := 294, descriptorIndex := 25, attributes := #[] }])
  fields := #[{ name := "U", type := (.object "jdk/internal/misc/Unsafe"), accessFlags := 24, slot := 0, constantValue := 0 }, { name := "BIG_ENDIAN", type := .boolean, accessFlags := 26, slot := 1, constantValue := 0 }, { name := "LOG2_ARRAY_BOOLEAN_INDEX_SCALE", type := .int, accessFlags := 25, slot := 2, constantValue := 0 }, { name := "LOG2_ARRAY_BYTE_INDEX_SCALE", type := .int, accessFlags := 25, slot := 3, constantValue := 0 }, { name := "LOG2_ARRAY_CHAR_INDEX_SCALE", type := .int, accessFlags := 25, slot := 4, constantValue := 0 }, { name := "LOG2_ARRAY_SHORT_INDEX_SCALE", type := .int, accessFlags := 25, slot := 5, constantValue := 0 }, { name := "LOG2_ARRAY_INT_INDEX_SCALE", type := .int, accessFlags := 25, slot := 6, constantValue := 0 }, { name := "LOG2_ARRAY_LONG_INDEX_SCALE", type := .int, accessFlags := 25, slot := 7, constantValue := 0 }, { name := "LOG2_ARRAY_FLOAT_INDEX_SCALE", type := .int, accessFlags := 25, slot := 8, constantValue := 0 }, { name := "LOG2_ARRAY_DOUBLE_INDEX_SCALE", type := .int, accessFlags := 25, slot := 9, constantValue := 0 }, { name := "LOG2_BYTE_BIT_SIZE", type := .int, accessFlags := 26, slot := 10, constantValue := 0 }, { name := "T_BOOLEAN", type := .int, accessFlags := 25, slot := 11, constantValue := 0 }, { name := "T_CHAR", type := .int, accessFlags := 25, slot := 12, constantValue := 0 }, { name := "T_FLOAT", type := .int, accessFlags := 25, slot := 13, constantValue := 0 }, { name := "T_DOUBLE", type := .int, accessFlags := 25, slot := 14, constantValue := 0 }, { name := "T_BYTE", type := .int, accessFlags := 25, slot := 15, constantValue := 0 }, { name := "T_SHORT", type := .int, accessFlags := 25, slot := 16, constantValue := 0 }, { name := "T_INT", type := .int, accessFlags := 25, slot := 17, constantValue := 0 }, { name := "T_LONG", type := .int, accessFlags := 25, slot := 18, constantValue := 0 }, { name := "JLA", type := (.object "jdk/internal/access/JavaLangAccess"), accessFlags := 26, slot := 19, constantValue := 0 }, { name := "SOFT_MAX_ARRAY_LENGTH", type := .int, accessFlags := 25, slot := 20, constantValue := 0 }]
  methods := #[k12m0]
  instanceTypes := #[]
  staticTypes := #[(.object "jdk/internal/misc/Unsafe"), .boolean, .int, .int, .int, .int, .int, .int, .int, .int, .int, .int, .int, .int, .int, .int, .int, .int, .int, (.object "jdk/internal/access/JavaLangAccess"), .int]
  resolved := Array.replicate 378 none
  statics := none }

def pool13 : Array CpInfo := pool [(1, u "java/lang/Cloneable"), (0, .class_ 1), (0, u "java/lang/Object"), (0, .class_ 3)] 3

/-- java/lang/Cloneable -/
def k13 : Class := { plain "java/lang/Cloneable" (some 0) with
  accessFlags := 1537
  interfaces := #[]
  cf := some (fileOf pool13 2 #[] #[] 1537 4 #[] #[])
  fields := #[]
  methods := #[]
  instanceTypes := #[]
  staticTypes := #[]
  resolved := Array.replicate 8 none
  statics := none }

/-- the primitive byte -/
def k14 : Class := { plain "byte" none with kind := .primitive 'B', accessFlags := 0x411 }
/-- [B -/
def k15 : Class := { plain "[B" (some 0) with kind := .array 14 .byte, interfaces := #[13, 2], accessFlags := 1041 }

/-- the primitive char -/
def k16 : Class := { plain "char" none with kind := .primitive 'C', accessFlags := 0x411 }
/-- [C -/
def k17 : Class := { plain "[C" (some 0) with kind := .array 16 .char, interfaces := #[13, 2], accessFlags := 1041 }

/-- the primitive int -/
def k18 : Class := { plain "int" none with kind := .primitive 'I', accessFlags := 0x411 }
/-- [I -/
def k19 : Class := { plain "[I" (some 0) with kind := .array 18 .int, interfaces := #[13, 2], accessFlags := 1041 }

def heap : Heap := #[{ cls := 7, slots := #[.long 0, .int 1, .null, .int 0, .null, .int 0, .int 0], vm := .statics 7 },
  { cls := 9, slots := #[.int 0, .int 8, .int 0, .int 1], vm := .statics 9 },
  { cls := 11, slots := #[.null, .null, .null], vm := .statics 11 }]
def classes : Array Class := #[k0, k1, k2, k3, k4, k5, k6, k7, k8, k9, k10, k11, k12, k13, k14, k15, k16, k17, k18, k19]
def interned : List (Array UInt16 × Addr) := []
def slotsUsed : Nat := 14
def theMethod : MethodId := ⟨1, 4⟩
def args0 : Array Value := #[.int 2, .int 65, .int 66, .int 67]
def aboutOver (below : List Frame) : State where
  vm := { classes := classes, interned := interned.toArray }
  heap := heap
  slotsUsed := slotsUsed
  threads := #[{ frames := .invoking theMethod args0 :: below }]
def below0 : List Frame := [.native { method := ⟨0, 0⟩, args := #[] }]
def about1 : State := aboutOver below0
def p0 : Program := .bare "" "" ""
def e0 : Env := launch0.env 0 0 0
theorem w_frames : about1.frames = Frame.invoking theMethod args0 :: below0 := rfl
set_option maxRecDepth 65536 in
theorem w_args : argsFit about1.vm theMethod args0 = true := by decide +kernel
set_option maxRecDepth 65536 in
theorem w_heap : heapFits about1 = true := by decide +kernel
set_option maxRecDepth 65536 in
theorem w_runnable : about1.curStatus? = some .runnable := by decide +kernel
set_option maxRecDepth 65536 in
theorem w_alone : about1.alone = true := by decide +kernel
set_option maxRecDepth 65536 in
theorem w_named : about1.methodNamed? x = some theMethod := by decide +kernel
set_option maxRecDepth 65536 in
theorem w_hears : about1.hears theMethod below0 = true := by decide +kernel
set_option maxRecDepth 65536 in
theorem w_ripe : about1.ripe theMethod args0 below0 = true := by decide +kernel
theorem w_running : about1.status = .running := rfl
set_option maxRecDepth 65536 in
theorem w_room : about1.hasRoom e0.platform room_1 = true :=
  launch0.hasRoom_least _ room_1 (by decide +kernel) (by decide +kernel) (by decide +kernel) (by decide +kernel) (by decide +kernel) (by decide +kernel)
theorem allAtoms_all (ts : List Jvm.Cond) (a : Array Jvm.Value) (st : Jvm.State) : (allAtoms ts).before a st = ts.all (fun c => c.before a st) := by
  induction ts with
  | nil => rfl
  | cons c t ih =>
    show (Jvm.Cond.and c (allAtoms t)).before a st = _
    rw [Jvm.Cond.before_and, ih, List.all_cons]
def words1 : List Jvm.Cond := Jvm.Cond.code x code maxLocals ret :: tables_1
/-- a 'code' word, met by the world's own term for the bytes: nothing is compared byte by byte -/
theorem code_word {y : MethodName} {bytes : ByteArray} {mx : Nat} {rt : Option FieldType} {a : Array Value} {s : State} {m : MethodId} {meth : Method} {c : Code} (h1 : s.methodNamed? y = some m) (h2 : s.vm.method? m = some meth) (h3 : meth.code = some c) (h4 : c.code = bytes)
    (h5 : (c.maxLocals == mx && c.exceptionTable.isEmpty && decide (c.maxStack ≤ mostOperands) && decide (meth.sig.returnType = rt) && !meth.locks && decide (parseMethodDescriptor y.desc = some meth.sig)) = true) : (Jvm.Cond.code y bytes mx rt).before a s = true := by
  simp only [Bool.and_eq_true, beq_iff_eq, Bool.not_eq_true', decide_eq_true_eq] at h5
  obtain ⟨⟨⟨⟨⟨g1, g2⟩, g3⟩, g4⟩, g5⟩, g6⟩ := h5
  simp [Cond.before, Cond.holds, Cond.value, h1, h2, h3, h4, g1, g2, g3, g4, g5, g6]
def isCode : Jvm.Cond → Bool
  | .code _ _ _ _ => true
  | _ => false
theorem all_split {L : List Jvm.Cond} {P : Jvm.Cond → Bool} (h1 : L.all (fun c => isCode c || P c) = true) (h2 : ∀ c ∈ L.filter isCode, P c = true) : L.all P = true := by
  refine List.all_eq_true.mpr fun c hc => ?_
  have h := List.all_eq_true.mp h1 c hc
  rcases Bool.eq_false_or_eq_true (isCode c) with hi | hi
  · exact h2 c (List.mem_filter.mpr ⟨hc, hi⟩)
  · simpa [hi] using h
set_option maxRecDepth 65536 in
theorem w_c0 : (Jvm.Cond.code x code maxLocals ret).before args0 about1 = true := code_word (m := ⟨1, 4⟩) (meth := k1m4) (c := k1c4) (by decide +kernel) rfl rfl rfl (by decide +kernel)
set_option maxRecDepth 65536 in
theorem w_c1 : (Jvm.Cond.code ({ cls := "com/example/role_delegation/roledelegation/NamesIsValidPinLaw", name := "draw", desc := "(I)C" } : Jvm.MethodName) method_2_code (1 : Nat) (Option.some Jvm.ClassFile.FieldType.char)).before args0 about1 = true := code_word (m := ⟨1, 1⟩) (meth := k1m1) (c := k1c1) (by decide +kernel) rfl rfl rfl (by decide +kernel)
set_option maxRecDepth 65536 in
theorem w_c2 : (Jvm.Cond.code ({ cls := "java/lang/String", name := "<init>", desc := "([C)V" } : Jvm.MethodName) jdk_42_method_3_code (2 : Nat) (Option.none : Option Jvm.ClassFile.FieldType)).before args0 about1 = true := code_word (m := ⟨7, 1⟩) (meth := k7m1) (c := k7c1) (by decide +kernel) rfl rfl rfl (by decide +kernel)
set_option maxRecDepth 65536 in
theorem w_c3 : (Jvm.Cond.code ({ cls := "java/lang/String", name := "<init>", desc := "([CIILjava/lang/Void;)V" } : Jvm.MethodName) jdk_42_method_149_code (6 : Nat) (Option.none : Option Jvm.ClassFile.FieldType)).before args0 about1 = true := code_word (m := ⟨7, 6⟩) (meth := k7m6) (c := k7c6) (by decide +kernel) rfl rfl rfl (by decide +kernel)
set_option maxRecDepth 65536 in
theorem w_c4 : (Jvm.Cond.code ({ cls := "java/lang/Object", name := "<init>", desc := "()V" } : Jvm.MethodName) object_method_1_code (1 : Nat) (Option.none : Option Jvm.ClassFile.FieldType)).before args0 about1 = true := code_word (m := ⟨0, 0⟩) (meth := k0m0) (c := k0c0) (by decide +kernel) rfl rfl rfl (by decide +kernel)
set_option maxRecDepth 65536 in
theorem w_c5 : (Jvm.Cond.code ({ cls := "com/example/role_delegation/roledelegation/Names", name := "isValid", desc := "(Ljava/lang/String;)Z" } : Jvm.MethodName) prog_38_method_2_code (3 : Nat) (Option.some Jvm.ClassFile.FieldType.boolean)).before args0 about1 = true := code_word (m := ⟨8, 1⟩) (meth := k8m1) (c := k8c1) (by decide +kernel) rfl rfl rfl (by decide +kernel)
set_option maxRecDepth 65536 in
theorem w_c6 : (Jvm.Cond.code ({ cls := "java/lang/String", name := "isEmpty", desc := "()Z" } : Jvm.MethodName) jdk_42_method_55_code (1 : Nat) (Option.some Jvm.ClassFile.FieldType.boolean)).before args0 about1 = true := code_word (m := ⟨7, 3⟩) (meth := k7m3) (c := k7c3) (by decide +kernel) rfl rfl rfl (by decide +kernel)
set_option maxRecDepth 65536 in
theorem w_c7 : (Jvm.Cond.code ({ cls := "java/lang/StringUTF16", name := "compress", desc := "([CII)[B" } : Jvm.MethodName) jdk_52_method_16_code (6 : Nat) (Option.some (Jvm.ClassFile.FieldType.array Jvm.ClassFile.FieldType.byte))).before args0 about1 = true := code_word (m := ⟨9, 8⟩) (meth := k9m8) (c := k9c8) (by decide +kernel) rfl rfl rfl (by decide +kernel)
set_option maxRecDepth 65536 in
theorem w_c8 : (Jvm.Cond.code ({ cls := "java/lang/StringUTF16", name := "compress", desc := "([CI[BII)I" } : Jvm.MethodName) jdk_52_method_21_code (7 : Nat) (Option.some Jvm.ClassFile.FieldType.int)).before args0 about1 = true := code_word (m := ⟨9, 9⟩) (meth := k9m9) (c := k9c9) (by decide +kernel) rfl rfl rfl (by decide +kernel)
set_option maxRecDepth 65536 in
theorem w_c9 : (Jvm.Cond.code ({ cls := "java/lang/StringUTF16", name := "coderFromArrayLen", desc := "([BI)B" } : Jvm.MethodName) jdk_52_method_15_code (2 : Nat) (Option.some Jvm.ClassFile.FieldType.byte)).before args0 about1 = true := code_word (m := ⟨9, 7⟩) (meth := k9m7) (c := k9c7) (by decide +kernel) rfl rfl rfl (by decide +kernel)
set_option maxRecDepth 65536 in
theorem w_c10 : (Jvm.Cond.code ({ cls := "com/example/role_delegation/roledelegation/NamesIsValidPinLaw", name := "alnum", desc := "(C)Z" } : Jvm.MethodName) method_3_code (2 : Nat) (Option.some Jvm.ClassFile.FieldType.boolean)).before args0 about1 = true := code_word (m := ⟨1, 2⟩) (meth := k1m2) (c := k1c2) (by decide +kernel) rfl rfl rfl (by decide +kernel)
set_option maxRecDepth 65536 in
theorem w_c11 : (Jvm.Cond.code ({ cls := "java/lang/String", name := "length", desc := "()I" } : Jvm.MethodName) jdk_42_method_54_code (1 : Nat) (Option.some Jvm.ClassFile.FieldType.int)).before args0 about1 = true := code_word (m := ⟨7, 2⟩) (meth := k7m2) (c := k7c2) (by decide +kernel) rfl rfl rfl (by decide +kernel)
set_option maxRecDepth 65536 in
theorem w_c12 : (Jvm.Cond.code ({ cls := "java/lang/String", name := "coder", desc := "()B" } : Jvm.MethodName) jdk_42_method_152_code (1 : Nat) (Option.some Jvm.ClassFile.FieldType.byte)).before args0 about1 = true := code_word (m := ⟨7, 8⟩) (meth := k7m8) (c := k7c8) (by decide +kernel) rfl rfl rfl (by decide +kernel)
set_option maxRecDepth 65536 in
theorem w_c13 : (Jvm.Cond.code ({ cls := "java/lang/String", name := "charAt", desc := "(I)C" } : Jvm.MethodName) jdk_42_method_56_code (2 : Nat) (Option.some Jvm.ClassFile.FieldType.char)).before args0 about1 = true := code_word (m := ⟨7, 4⟩) (meth := k7m4) (c := k7c4) (by decide +kernel) rfl rfl rfl (by decide +kernel)
set_option maxRecDepth 65536 in
theorem w_c14 : (Jvm.Cond.code ({ cls := "java/lang/String", name := "isLatin1", desc := "()Z" } : Jvm.MethodName) jdk_42_method_154_code (1 : Nat) (Option.some Jvm.ClassFile.FieldType.boolean)).before args0 about1 = true := code_word (m := ⟨7, 9⟩) (meth := k7m9) (c := k7c9) (by decide +kernel) rfl rfl rfl (by decide +kernel)
set_option maxRecDepth 65536 in
theorem w_c15 : (Jvm.Cond.code ({ cls := "java/lang/StringLatin1", name := "charAt", desc := "([BI)C" } : Jvm.MethodName) jdk_43_method_2_code (2 : Nat) (Option.some Jvm.ClassFile.FieldType.char)).before args0 about1 = true := code_word (m := ⟨10, 1⟩) (meth := k10m1) (c := k10c1) (by decide +kernel) rfl rfl rfl (by decide +kernel)
set_option maxRecDepth 65536 in
theorem w_c16 : (Jvm.Cond.code ({ cls := "java/lang/String", name := "checkIndex", desc := "(II)V" } : Jvm.MethodName) jdk_42_method_155_code (2 : Nat) (Option.none : Option Jvm.ClassFile.FieldType)).before args0 about1 = true := code_word (m := ⟨7, 10⟩) (meth := k7m10) (c := k7c10) (by decide +kernel) rfl rfl rfl (by decide +kernel)
set_option maxRecDepth 65536 in
theorem w_c17 : (Jvm.Cond.code ({ cls := "jdk/internal/util/Preconditions", name := "checkIndex", desc := "(IILjava/util/function/BiFunction;)I" } : Jvm.MethodName) jdk_41_method_11_code (3 : Nat) (Option.some Jvm.ClassFile.FieldType.int)).before args0 about1 = true := code_word (m := ⟨11, 1⟩) (meth := k11m1) (c := k11c1) (by decide +kernel) rfl rfl rfl (by decide +kernel)
set_option maxRecDepth 65536 in
theorem w_c18 : (Jvm.Cond.code ({ cls := "com/example/role_delegation/roledelegation/Names", name := "isLetterOrDigit", desc := "(C)Z" } : Jvm.MethodName) prog_38_method_3_code (1 : Nat) (Option.some Jvm.ClassFile.FieldType.boolean)).before args0 about1 = true := code_word (m := ⟨8, 2⟩) (meth := k8m2) (c := k8c2) (by decide +kernel) rfl rfl rfl (by decide +kernel)
set_option maxRecDepth 65536 in
theorem w_c19 : (Jvm.Cond.code ({ cls := "com/example/role_delegation/roledelegation/NamesIsValidPinLaw", name := "tail", desc := "(C)Z" } : Jvm.MethodName) method_4_code (1 : Nat) (Option.some Jvm.ClassFile.FieldType.boolean)).before args0 about1 = true := code_word (m := ⟨1, 3⟩) (meth := k1m3) (c := k1c3) (by decide +kernel) rfl rfl rfl (by decide +kernel)
set_option maxRecDepth 65536 in
theorem w_c20 : (Jvm.Cond.code ({ cls := "java/lang/String", name := "valueOf", desc := "(C)Ljava/lang/String;" } : Jvm.MethodName) jdk_42_method_139_code (1 : Nat) (Option.some (Jvm.ClassFile.FieldType.object "java/lang/String"))).before args0 about1 = true := code_word (m := ⟨7, 5⟩) (meth := k7m5) (c := k7c5) (by decide +kernel) rfl rfl rfl (by decide +kernel)
set_option maxRecDepth 65536 in
theorem w_c21 : (Jvm.Cond.code ({ cls := "java/lang/StringLatin1", name := "canEncode", desc := "(C)Z" } : Jvm.MethodName) jdk_43_method_3_code (1 : Nat) (Option.some Jvm.ClassFile.FieldType.boolean)).before args0 about1 = true := code_word (m := ⟨10, 2⟩) (meth := k10m2) (c := k10c2) (by decide +kernel) rfl rfl rfl (by decide +kernel)
set_option maxRecDepth 65536 in
theorem w_c22 : (Jvm.Cond.code ({ cls := "java/lang/StringLatin1", name := "toBytes", desc := "(C)[B" } : Jvm.MethodName) jdk_43_method_46_code (1 : Nat) (Option.some (Jvm.ClassFile.FieldType.array Jvm.ClassFile.FieldType.byte))).before args0 about1 = true := code_word (m := ⟨10, 3⟩) (meth := k10m3) (c := k10c3) (by decide +kernel) rfl rfl rfl (by decide +kernel)
set_option maxRecDepth 65536 in
theorem w_c23 : (Jvm.Cond.code ({ cls := "java/lang/String", name := "<init>", desc := "([BB)V" } : Jvm.MethodName) jdk_42_method_151_code (3 : Nat) (Option.none : Option Jvm.ClassFile.FieldType)).before args0 about1 = true := code_word (m := ⟨7, 7⟩) (meth := k7m7) (c := k7c7) (by decide +kernel) rfl rfl rfl (by decide +kernel)
set_option maxRecDepth 65536 in
theorem w_c24 : (Jvm.Cond.code ({ cls := "java/lang/StringUTF16", name := "toBytes", desc := "([CII)[B" } : Jvm.MethodName) jdk_52_method_14_code (5 : Nat) (Option.some (Jvm.ClassFile.FieldType.array Jvm.ClassFile.FieldType.byte))).before args0 about1 = true := code_word (m := ⟨9, 6⟩) (meth := k9m6) (c := k9c6) (by decide +kernel) rfl rfl rfl (by decide +kernel)
set_option maxRecDepth 65536 in
theorem w_c25 : (Jvm.Cond.code ({ cls := "java/lang/StringUTF16", name := "newBytesFor", desc := "(I)[B" } : Jvm.MethodName) jdk_52_method_2_code (1 : Nat) (Option.some (Jvm.ClassFile.FieldType.array Jvm.ClassFile.FieldType.byte))).before args0 about1 = true := code_word (m := ⟨9, 1⟩) (meth := k9m1) (c := k9c1) (by decide +kernel) rfl rfl rfl (by decide +kernel)
set_option maxRecDepth 65536 in
theorem w_c26 : (Jvm.Cond.code ({ cls := "java/lang/StringUTF16", name := "newBytesLength", desc := "(I)I" } : Jvm.MethodName) jdk_52_method_3_code (1 : Nat) (Option.some Jvm.ClassFile.FieldType.int)).before args0 about1 = true := code_word (m := ⟨9, 2⟩) (meth := k9m2) (c := k9c2) (by decide +kernel) rfl rfl rfl (by decide +kernel)
set_option maxRecDepth 65536 in
theorem w_c27 : (Jvm.Cond.code ({ cls := "java/lang/StringUTF16", name := "putChar", desc := "([BII)V" } : Jvm.MethodName) jdk_52_method_4_code (3 : Nat) (Option.none : Option Jvm.ClassFile.FieldType)).before args0 about1 = true := code_word (m := ⟨9, 3⟩) (meth := k9m3) (c := k9c3) (by decide +kernel) rfl rfl rfl (by decide +kernel)
set_option maxRecDepth 65536 in
theorem w_c28 : (Jvm.Cond.code ({ cls := "java/lang/StringUTF16", name := "getChar", desc := "([BI)C" } : Jvm.MethodName) jdk_52_method_5_code (2 : Nat) (Option.some Jvm.ClassFile.FieldType.char)).before args0 about1 = true := code_word (m := ⟨9, 4⟩) (meth := k9m4) (c := k9c4) (by decide +kernel) rfl rfl rfl (by decide +kernel)
set_option maxRecDepth 65536 in
theorem w_c29 : (Jvm.Cond.code ({ cls := "java/lang/StringUTF16", name := "charAt", desc := "([BI)C" } : Jvm.MethodName) jdk_52_method_83_code (2 : Nat) (Option.some Jvm.ClassFile.FieldType.char)).before args0 about1 = true := code_word (m := ⟨9, 11⟩) (meth := k9m11) (c := k9c11) (by decide +kernel) rfl rfl rfl (by decide +kernel)
set_option maxRecDepth 65536 in
theorem w_c30 : (Jvm.Cond.code ({ cls := "java/lang/StringUTF16", name := "checkIndex", desc := "(I[B)V" } : Jvm.MethodName) jdk_52_method_91_code (2 : Nat) (Option.none : Option Jvm.ClassFile.FieldType)).before args0 about1 = true := code_word (m := ⟨9, 12⟩) (meth := k9m12) (c := k9c12) (by decide +kernel) rfl rfl rfl (by decide +kernel)
set_option maxRecDepth 65536 in
theorem w_c31 : (Jvm.Cond.code ({ cls := "java/lang/StringUTF16", name := "length", desc := "([B)I" } : Jvm.MethodName) jdk_52_method_6_code (1 : Nat) (Option.some Jvm.ClassFile.FieldType.int)).before args0 about1 = true := code_word (m := ⟨9, 5⟩) (meth := k9m5) (c := k9c5) (by decide +kernel) rfl rfl rfl (by decide +kernel)
set_option maxRecDepth 65536 in
theorem w_c32 : (Jvm.Cond.code ({ cls := "java/lang/StringUTF16", name := "toBytes", desc := "(C)[B" } : Jvm.MethodName) jdk_52_method_24_code (2 : Nat) (Option.some (Jvm.ClassFile.FieldType.array Jvm.ClassFile.FieldType.byte))).before args0 about1 = true := code_word (m := ⟨9, 10⟩) (meth := k9m10) (c := k9c10) (by decide +kernel) rfl rfl rfl (by decide +kernel)
def codes1 : List Jvm.Cond := [Jvm.Cond.code x code maxLocals ret, Jvm.Cond.code ({ cls := "com/example/role_delegation/roledelegation/NamesIsValidPinLaw", name := "draw", desc := "(I)C" } : Jvm.MethodName) method_2_code (1 : Nat) (Option.some Jvm.ClassFile.FieldType.char), Jvm.Cond.code ({ cls := "java/lang/String", name := "<init>", desc := "([C)V" } : Jvm.MethodName) jdk_42_method_3_code (2 : Nat) (Option.none : Option Jvm.ClassFile.FieldType), Jvm.Cond.code ({ cls := "java/lang/String", name := "<init>", desc := "([CIILjava/lang/Void;)V" } : Jvm.MethodName) jdk_42_method_149_code (6 : Nat) (Option.none : Option Jvm.ClassFile.FieldType), Jvm.Cond.code ({ cls := "java/lang/Object", name := "<init>", desc := "()V" } : Jvm.MethodName) object_method_1_code (1 : Nat) (Option.none : Option Jvm.ClassFile.FieldType), Jvm.Cond.code ({ cls := "com/example/role_delegation/roledelegation/Names", name := "isValid", desc := "(Ljava/lang/String;)Z" } : Jvm.MethodName) prog_38_method_2_code (3 : Nat) (Option.some Jvm.ClassFile.FieldType.boolean), Jvm.Cond.code ({ cls := "java/lang/String", name := "isEmpty", desc := "()Z" } : Jvm.MethodName) jdk_42_method_55_code (1 : Nat) (Option.some Jvm.ClassFile.FieldType.boolean), Jvm.Cond.code ({ cls := "java/lang/StringUTF16", name := "compress", desc := "([CII)[B" } : Jvm.MethodName) jdk_52_method_16_code (6 : Nat) (Option.some (Jvm.ClassFile.FieldType.array Jvm.ClassFile.FieldType.byte)), Jvm.Cond.code ({ cls := "java/lang/StringUTF16", name := "compress", desc := "([CI[BII)I" } : Jvm.MethodName) jdk_52_method_21_code (7 : Nat) (Option.some Jvm.ClassFile.FieldType.int), Jvm.Cond.code ({ cls := "java/lang/StringUTF16", name := "coderFromArrayLen", desc := "([BI)B" } : Jvm.MethodName) jdk_52_method_15_code (2 : Nat) (Option.some Jvm.ClassFile.FieldType.byte), Jvm.Cond.code ({ cls := "com/example/role_delegation/roledelegation/NamesIsValidPinLaw", name := "alnum", desc := "(C)Z" } : Jvm.MethodName) method_3_code (2 : Nat) (Option.some Jvm.ClassFile.FieldType.boolean), Jvm.Cond.code ({ cls := "java/lang/String", name := "length", desc := "()I" } : Jvm.MethodName) jdk_42_method_54_code (1 : Nat) (Option.some Jvm.ClassFile.FieldType.int), Jvm.Cond.code ({ cls := "java/lang/String", name := "coder", desc := "()B" } : Jvm.MethodName) jdk_42_method_152_code (1 : Nat) (Option.some Jvm.ClassFile.FieldType.byte), Jvm.Cond.code ({ cls := "java/lang/String", name := "charAt", desc := "(I)C" } : Jvm.MethodName) jdk_42_method_56_code (2 : Nat) (Option.some Jvm.ClassFile.FieldType.char), Jvm.Cond.code ({ cls := "java/lang/String", name := "isLatin1", desc := "()Z" } : Jvm.MethodName) jdk_42_method_154_code (1 : Nat) (Option.some Jvm.ClassFile.FieldType.boolean), Jvm.Cond.code ({ cls := "java/lang/StringLatin1", name := "charAt", desc := "([BI)C" } : Jvm.MethodName) jdk_43_method_2_code (2 : Nat) (Option.some Jvm.ClassFile.FieldType.char), Jvm.Cond.code ({ cls := "java/lang/String", name := "checkIndex", desc := "(II)V" } : Jvm.MethodName) jdk_42_method_155_code (2 : Nat) (Option.none : Option Jvm.ClassFile.FieldType), Jvm.Cond.code ({ cls := "jdk/internal/util/Preconditions", name := "checkIndex", desc := "(IILjava/util/function/BiFunction;)I" } : Jvm.MethodName) jdk_41_method_11_code (3 : Nat) (Option.some Jvm.ClassFile.FieldType.int), Jvm.Cond.code ({ cls := "com/example/role_delegation/roledelegation/Names", name := "isLetterOrDigit", desc := "(C)Z" } : Jvm.MethodName) prog_38_method_3_code (1 : Nat) (Option.some Jvm.ClassFile.FieldType.boolean), Jvm.Cond.code ({ cls := "com/example/role_delegation/roledelegation/NamesIsValidPinLaw", name := "tail", desc := "(C)Z" } : Jvm.MethodName) method_4_code (1 : Nat) (Option.some Jvm.ClassFile.FieldType.boolean), Jvm.Cond.code ({ cls := "java/lang/String", name := "valueOf", desc := "(C)Ljava/lang/String;" } : Jvm.MethodName) jdk_42_method_139_code (1 : Nat) (Option.some (Jvm.ClassFile.FieldType.object "java/lang/String")), Jvm.Cond.code ({ cls := "java/lang/StringLatin1", name := "canEncode", desc := "(C)Z" } : Jvm.MethodName) jdk_43_method_3_code (1 : Nat) (Option.some Jvm.ClassFile.FieldType.boolean), Jvm.Cond.code ({ cls := "java/lang/StringLatin1", name := "toBytes", desc := "(C)[B" } : Jvm.MethodName) jdk_43_method_46_code (1 : Nat) (Option.some (Jvm.ClassFile.FieldType.array Jvm.ClassFile.FieldType.byte)), Jvm.Cond.code ({ cls := "java/lang/String", name := "<init>", desc := "([BB)V" } : Jvm.MethodName) jdk_42_method_151_code (3 : Nat) (Option.none : Option Jvm.ClassFile.FieldType), Jvm.Cond.code ({ cls := "java/lang/StringUTF16", name := "toBytes", desc := "([CII)[B" } : Jvm.MethodName) jdk_52_method_14_code (5 : Nat) (Option.some (Jvm.ClassFile.FieldType.array Jvm.ClassFile.FieldType.byte)), Jvm.Cond.code ({ cls := "java/lang/StringUTF16", name := "newBytesFor", desc := "(I)[B" } : Jvm.MethodName) jdk_52_method_2_code (1 : Nat) (Option.some (Jvm.ClassFile.FieldType.array Jvm.ClassFile.FieldType.byte)), Jvm.Cond.code ({ cls := "java/lang/StringUTF16", name := "newBytesLength", desc := "(I)I" } : Jvm.MethodName) jdk_52_method_3_code (1 : Nat) (Option.some Jvm.ClassFile.FieldType.int), Jvm.Cond.code ({ cls := "java/lang/StringUTF16", name := "putChar", desc := "([BII)V" } : Jvm.MethodName) jdk_52_method_4_code (3 : Nat) (Option.none : Option Jvm.ClassFile.FieldType), Jvm.Cond.code ({ cls := "java/lang/StringUTF16", name := "getChar", desc := "([BI)C" } : Jvm.MethodName) jdk_52_method_5_code (2 : Nat) (Option.some Jvm.ClassFile.FieldType.char), Jvm.Cond.code ({ cls := "java/lang/StringUTF16", name := "charAt", desc := "([BI)C" } : Jvm.MethodName) jdk_52_method_83_code (2 : Nat) (Option.some Jvm.ClassFile.FieldType.char), Jvm.Cond.code ({ cls := "java/lang/StringUTF16", name := "checkIndex", desc := "(I[B)V" } : Jvm.MethodName) jdk_52_method_91_code (2 : Nat) (Option.none : Option Jvm.ClassFile.FieldType), Jvm.Cond.code ({ cls := "java/lang/StringUTF16", name := "length", desc := "([B)I" } : Jvm.MethodName) jdk_52_method_6_code (1 : Nat) (Option.some Jvm.ClassFile.FieldType.int), Jvm.Cond.code ({ cls := "java/lang/StringUTF16", name := "toBytes", desc := "(C)[B" } : Jvm.MethodName) jdk_52_method_24_code (2 : Nat) (Option.some (Jvm.ClassFile.FieldType.array Jvm.ClassFile.FieldType.byte))]
set_option maxRecDepth 65536 in
theorem codes_eq : words1.filter isCode = codes1 := rfl
theorem w_codes : ∀ c ∈ words1.filter isCode, c.before args0 about1 = true := by
  rw [codes_eq]
  intro c hc
  simp only [codes1, List.mem_cons, List.not_mem_nil, or_false] at hc
  rcases hc with rfl | rfl | rfl | rfl | rfl | rfl | rfl | rfl | rfl | rfl | rfl | rfl | rfl | rfl | rfl | rfl | rfl | rfl | rfl | rfl | rfl | rfl | rfl | rfl | rfl | rfl | rfl | rfl | rfl | rfl | rfl | rfl | rfl
  · exact w_c0
  · exact w_c1
  · exact w_c2
  · exact w_c3
  · exact w_c4
  · exact w_c5
  · exact w_c6
  · exact w_c7
  · exact w_c8
  · exact w_c9
  · exact w_c10
  · exact w_c11
  · exact w_c12
  · exact w_c13
  · exact w_c14
  · exact w_c15
  · exact w_c16
  · exact w_c17
  · exact w_c18
  · exact w_c19
  · exact w_c20
  · exact w_c21
  · exact w_c22
  · exact w_c23
  · exact w_c24
  · exact w_c25
  · exact w_c26
  · exact w_c27
  · exact w_c28
  · exact w_c29
  · exact w_c30
  · exact w_c31
  · exact w_c32
set_option maxRecDepth 65536 in
theorem w_t1 : (words1.take 24).all (fun c => isCode c || c.before args0 about1) = true := by decide +kernel
set_option maxRecDepth 65536 in
theorem w_t2 : ((words1.drop 24).take 24).all (fun c => isCode c || c.before args0 about1) = true := by decide +kernel
set_option maxRecDepth 65536 in
theorem w_t3 : (((words1.drop 24).drop 24).take 24).all (fun c => isCode c || c.before args0 about1) = true := by decide +kernel
set_option maxRecDepth 65536 in
theorem w_t4 : ((((words1.drop 24).drop 24).drop 24).take 24).all (fun c => isCode c || c.before args0 about1) = true := by decide +kernel
set_option maxRecDepth 65536 in
theorem w_t5 : (((((words1.drop 24).drop 24).drop 24).drop 24).take 24).all (fun c => isCode c || c.before args0 about1) = true := by decide +kernel
set_option maxRecDepth 65536 in
theorem w_t6 : (((((words1.drop 24).drop 24).drop 24).drop 24).drop 24).all (fun c => isCode c || c.before args0 about1) = true := by decide +kernel
theorem w_tables : (allAtoms (Jvm.Cond.code x code maxLocals ret :: tables_1)).before args0 about1 = true := by
  rw [allAtoms_all]
  show words1.all (fun c => c.before args0 about1) = true
  refine all_split ?_ w_codes
  rw [← List.take_append_drop 24 words1, List.all_append, w_t1, ← List.take_append_drop 24 (words1.drop 24), List.all_append, w_t2, ← List.take_append_drop 24 ((words1.drop 24).drop 24), List.all_append, w_t3, ← List.take_append_drop 24 (((words1.drop 24).drop 24).drop 24), List.all_append, w_t4, ← List.take_append_drop 24 ((((words1.drop 24).drop 24).drop 24).drop 24), List.all_append, w_t5, w_t6]
  rfl
set_option maxRecDepth 65536 in
theorem w_rest : rest_1_c.before args0 about1 = true := by decide +kernel
set_option maxRecDepth 65536 in
theorem w_case : (Jvm.Cond.and given_1 narrow_1).before args0 about1 = true := by decide +kernel
set_option maxRecDepth 65536 in
theorem w_consts : constsHeld consts_1 about1 := Jvm.Lit.constsHeldB_iff.mp (by decide +kernel)
theorem w_applies : (headSpec (Jvm.Cond.code x code maxLocals ret :: tables_1) room_1).applies x e0.platform about1 = true :=
  (Spec.applies_iff w_frames).mpr ⟨w_running, w_runnable, w_alone, w_named, w_hears, w_ripe, w_room, w_tables⟩
theorem atStart : AtStart classFile x code maxLocals ret World_1 tables_1 room_1 Calls_1 rest_1 Pre_1 launch0 p0 e0 about1 theMethod args0 below0 :=
  ⟨lists_1, trivial, launch0.admits_env _ _ _, launch0.least_env, fairChoices_fair.cas, fairChoices_fair.clock, w_frames, w_args, w_heap, w_applies, ⟨w_consts, trivial⟩, w_rest, w_case⟩
end start1
theorem witness_1 : WitnessClaimed_1 := ⟨start1.p0, start1.e0, start1.about1, start1.theMethod, start1.args0, start1.below0, start1.atStart⟩
end Jvm.Pilot.@@N@@
