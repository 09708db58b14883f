import JvmDerived
import JvmDerived.Pilot.@@N@@Statement
import JvmDerived.Pilot.@@N@@Code
set_option linter.unusedVariables false
set_option linter.unusedSimpArgs false
namespace Jvm.Pilot.@@N@@
open Jvm Jvm.ClassFile Sem Op Lib Jvm.Free Jvm.Stand Jvm.LawKit Jvm.RoadKit Bundle Jvm.Pilot.@@N@@.Jvm.D
/-- from A the run comes to B -/
def Go (p : Program) (e : Env) (below : List Frame) (A B : State) : Prop := ∀ t, Steps p.tables e below B t → Steps p.tables e below A t
def own_b (P : Prop) [Decidable P] : Int32 := if P then 1 else 0
theorem own_b1 {P : Prop} [Decidable P] (h : P) : ¬ own_b P = (0 : Int32) := by simp [own_b, h]
theorem own_b0 {P : Prop} [Decidable P] (h : ¬ P) : own_b P = (0 : Int32) := by simp [own_b, h]
theorem own_bt {P : Prop} [Decidable P] (h : P) : own_b P = (1 : Int32) := by simp [own_b, h]
theorem own_nb {P : Prop} [Decidable P] : nar .boolean (own_b P) = own_b P := by by_cases h : P <;> simp [own_b, h] <;> decide
theorem own_beq {P R : Prop} [Decidable P] [Decidable R] (h : P ↔ R) : own_b P = own_b R := by by_cases q : P <;> simp [own_b, q, ← h]
theorem d1_0 : decode method_3_code 0 = .ok (.iload_n 0, 1) := by decide +kernel
theorem d1_1 : decode method_3_code 1 = .ok (.iload_n 1, 1) := by decide +kernel
theorem d1_2 : decode method_3_code 2 = .ok (.if_icmp .lt 22, 3) := by decide +kernel
theorem d1_5 : decode method_3_code 5 = .ok (.iload_n 0, 1) := by decide +kernel
theorem d1_6 : decode method_3_code 6 = .ok (.iload_n 1, 1) := by decide +kernel
theorem d1_7 : decode method_3_code 7 = .ok (.bipush 8, 2) := by decide +kernel
theorem d1_9 : decode method_3_code 9 = .ok (.iadd, 1) := by decide +kernel
theorem d1_10 : decode method_3_code 10 = .ok (.if_icmp .ge 14, 3) := by decide +kernel
theorem d1_13 : decode method_3_code 13 = .ok (.lload_n 2, 1) := by decide +kernel
theorem d1_14 : decode method_3_code 14 = .ok (.bipush 8, 2) := by decide +kernel
theorem d1_16 : decode method_3_code 16 = .ok (.iload_n 0, 1) := by decide +kernel
theorem d1_17 : decode method_3_code 17 = .ok (.iload_n 1, 1) := by decide +kernel
theorem d1_18 : decode method_3_code 18 = .ok (.isub, 1) := by decide +kernel
theorem d1_19 : decode method_3_code 19 = .ok (.imul, 1) := by decide +kernel
theorem d1_20 : decode method_3_code 20 = .ok (.lushr, 1) := by decide +kernel
theorem d1_21 : decode method_3_code 21 = .ok (.l2i, 1) := by decide +kernel
theorem d1_22 : decode method_3_code 22 = .ok (.i2b, 1) := by decide +kernel
theorem d1_23 : decode method_3_code 23 = .ok (.ireturn, 1) := by decide +kernel
theorem d1_24 : decode method_3_code 24 = .ok (.iload 4, 2) := by decide +kernel
theorem d1_26 : decode method_3_code 26 = .ok (.bipush 8, 2) := by decide +kernel
theorem d1_28 : decode method_3_code 28 = .ok (.iload_n 0, 1) := by decide +kernel
theorem d1_29 : decode method_3_code 29 = .ok (.iconst 3, 1) := by decide +kernel
theorem d1_30 : decode method_3_code 30 = .ok (.iand, 1) := by decide +kernel
theorem d1_31 : decode method_3_code 31 = .ok (.imul, 1) := by decide +kernel
theorem d1_32 : decode method_3_code 32 = .ok (.iushr, 1) := by decide +kernel
theorem d1_33 : decode method_3_code 33 = .ok (.i2b, 1) := by decide +kernel
theorem d1_34 : decode method_3_code 34 = .ok (.ireturn, 1) := by decide +kernel
theorem d2_0 : decode prog_17_method_11_code 0 = .ok (.lconst 0, 1) := by decide +kernel
theorem d2_1 : decode prog_17_method_11_code 1 = .ok (.lstore_n 3, 1) := by decide +kernel
theorem d2_2 : decode prog_17_method_11_code 2 = .ok (.iconst 0, 1) := by decide +kernel
theorem d2_3 : decode prog_17_method_11_code 3 = .ok (.istore 5, 2) := by decide +kernel
theorem d2_5 : decode prog_17_method_11_code 5 = .ok (.iload 5, 2) := by decide +kernel
theorem d2_7 : decode prog_17_method_11_code 7 = .ok (.iload_n 2, 1) := by decide +kernel
theorem d2_8 : decode prog_17_method_11_code 8 = .ok (.if_icmp .ge 29, 3) := by decide +kernel
theorem d2_11 : decode prog_17_method_11_code 11 = .ok (.lload_n 3, 1) := by decide +kernel
theorem d2_12 : decode prog_17_method_11_code 12 = .ok (.aload_n 0, 1) := by decide +kernel
theorem d2_13 : decode prog_17_method_11_code 13 = .ok (.iload_n 1, 1) := by decide +kernel
theorem d2_14 : decode prog_17_method_11_code 14 = .ok (.iload 5, 2) := by decide +kernel
theorem d2_16 : decode prog_17_method_11_code 16 = .ok (.iadd, 1) := by decide +kernel
theorem d2_17 : decode prog_17_method_11_code 17 = .ok (.baload, 1) := by decide +kernel
theorem d2_18 : decode prog_17_method_11_code 18 = .ok (.sipush 255, 3) := by decide +kernel
theorem d2_21 : decode prog_17_method_11_code 21 = .ok (.iand, 1) := by decide +kernel
theorem d2_22 : decode prog_17_method_11_code 22 = .ok (.i2l, 1) := by decide +kernel
theorem d2_23 : decode prog_17_method_11_code 23 = .ok (.bipush 8, 2) := by decide +kernel
theorem d2_25 : decode prog_17_method_11_code 25 = .ok (.iload 5, 2) := by decide +kernel
theorem d2_27 : decode prog_17_method_11_code 27 = .ok (.imul, 1) := by decide +kernel
theorem d2_28 : decode prog_17_method_11_code 28 = .ok (.lshl, 1) := by decide +kernel
theorem d2_29 : decode prog_17_method_11_code 29 = .ok (.lor, 1) := by decide +kernel
theorem d2_30 : decode prog_17_method_11_code 30 = .ok (.lstore_n 3, 1) := by decide +kernel
theorem d2_31 : decode prog_17_method_11_code 31 = .ok (.iinc 5 1, 3) := by decide +kernel
theorem d2_34 : decode prog_17_method_11_code 34 = .ok (.goto (-29), 3) := by decide +kernel
theorem d2_37 : decode prog_17_method_11_code 37 = .ok (.lload_n 3, 1) := by decide +kernel
theorem d2_38 : decode prog_17_method_11_code 38 = .ok (.lreturn, 1) := by decide +kernel
theorem pn_0 : plainName "com/example/ledgerline/ledgerline/format/GrowingBytesLittleEndianPinLaw" = true := by first | (simp [plainName, overriddenIn]; done) | decide +kernel
theorem pn_1 : plainName "com/example/ledgerline/ledgerline/format/GrowingBytes" = true := by first | (simp [plainName, overriddenIn]; done) | decide +kernel
theorem pd_0 : parseMethodDescriptor "(IIJI)B" = some ⟨[.int, .int, .long, .int], some .byte⟩ := by decide +kernel
theorem pd_1 : parseMethodDescriptor "([BII)J" = some ⟨[(.array .byte), .int, .int], some .long⟩ := by decide +kernel
theorem ef_rm1 (m : MethodId) (x0 : Int32) (x1 : Int32) (x2 : Int64) (x3 : Int32) : entryFrame m #[(.int x0), (.int x1), (.long x2), (.int x3)] 5 = mkF m 0 #[.val (.int x0), .val (.int x1), .val (.long x2), .second, .val (.int x3)] [] := by first | (simp [entryFrame, mkF, argsToLocals, Value.category]; done) | rfl
theorem ef_rm2_0 (m : MethodId) (x0 : Addr) (x1 : Int32) (x2 : Int32) : entryFrame m #[(.ref x0), (.int x1), (.int x2)] 6 = mkF m 0 #[.val (.ref x0), .val (.int x1), .val (.int x2), .unset, .unset, .unset] [] := by first | (simp [entryFrame, mkF, argsToLocals, Value.category]; done) | rfl
theorem ef_rm2_1 (m : MethodId) (x0 : Addr) (x1 : Int32) (x2 : Int32) : entryFrame m #[(.ref x0), (.int x1), (.int x2)] 6 = mkF m 0 #[.val (.ref x0), .val (.int x1), .val (.int x2), .unset, .unset, .unset] [] := by first | (simp [entryFrame, mkF, argsToLocals, Value.category]; done) | rfl
theorem ef_rm2_2 (m : MethodId) (x0 : Addr) (x1 : Int32) (x2 : Int32) : entryFrame m #[(.ref x0), (.int x1), (.int x2)] 6 = mkF m 0 #[.val (.ref x0), .val (.int x1), .val (.int x2), .unset, .unset, .unset] [] := by first | (simp [entryFrame, mkF, argsToLocals, Value.category]; done) | rfl
theorem ef_rm2_3 (m : MethodId) (x0 : Addr) (x1 : Int32) (x2 : Int32) : entryFrame m #[(.ref x0), (.int x1), (.int x2)] 6 = mkF m 0 #[.val (.ref x0), .val (.int x1), .val (.int x2), .unset, .unset, .unset] [] := by first | (simp [entryFrame, mkF, argsToLocals, Value.category]; done) | rfl
theorem ef_rm2_4 (m : MethodId) (x0 : Addr) (x1 : Int32) (x2 : Int32) : entryFrame m #[(.ref x0), (.int x1), (.int x2)] 6 = mkF m 0 #[.val (.ref x0), .val (.int x1), .val (.int x2), .unset, .unset, .unset] [] := by first | (simp [entryFrame, mkF, argsToLocals, Value.category]; done) | rfl
theorem ef_rm2_5 (m : MethodId) (x0 : Addr) (x1 : Int32) (x2 : Int32) : entryFrame m #[(.ref x0), (.int x1), (.int x2)] 6 = mkF m 0 #[.val (.ref x0), .val (.int x1), .val (.int x2), .unset, .unset, .unset] [] := by first | (simp [entryFrame, mkF, argsToLocals, Value.category]; done) | rfl
theorem ef_rm2_6 (m : MethodId) (x0 : Addr) (x1 : Int32) (x2 : Int32) : entryFrame m #[(.ref x0), (.int x1), (.int x2)] 6 = mkF m 0 #[.val (.ref x0), .val (.int x1), .val (.int x2), .unset, .unset, .unset] [] := by first | (simp [entryFrame, mkF, argsToLocals, Value.category]; done) | rfl
theorem ef_rm2_7 (m : MethodId) (x0 : Addr) (x1 : Int32) (x2 : Int32) : entryFrame m #[(.ref x0), (.int x1), (.int x2)] 6 = mkF m 0 #[.val (.ref x0), .val (.int x1), .val (.int x2), .unset, .unset, .unset] [] := by first | (simp [entryFrame, mkF, argsToLocals, Value.category]; done) | rfl
theorem ef_rm2_8 (m : MethodId) (x0 : Addr) (x1 : Int32) (x2 : Int32) : entryFrame m #[(.ref x0), (.int x1), (.int x2)] 6 = mkF m 0 #[.val (.ref x0), .val (.int x1), .val (.int x2), .unset, .unset, .unset] [] := by first | (simp [entryFrame, mkF, argsToLocals, Value.category]; done) | rfl
theorem ef_rm0 (m : MethodId) (x0 : Int64) (x1 : Int32) (x2 : Int32) (x3 : Int32) : entryFrame m #[(.long x0), (.int x1), (.int x2), (.int x3)] maxLocals = mkF m 0 #[.val (.long x0), .second, .val (.int x1), .val (.int x2), .val (.int x3), .unset, .unset, .unset, .unset, .unset, .unset, .unset] [] := by first | (simp [entryFrame, mkF, argsToLocals, Value.category, maxLocals]; done) | rfl
def own_by (v : Int64) (i : Int32) : Int32 := ((v.toUInt64 >>> (((8 : Int32) * i) &&& 0x3f).toInt64.toUInt64).toInt64).toInt32.toInt8.toInt32
def own_pk (p0 p1 : Int32) (q2 : Int64) (p4 : Int32) : Int32 := if ¬ p0 < p1 ∧ p0 < (p1 + (8 : Int32)) then nar .byte (((q2.toUInt64 >>> (((8 : Int32) * (p0 - p1)) &&& 0x3f).toInt64.toUInt64).toInt64).toInt32.toInt8.toInt32) else nar .byte (((p4.toUInt32 >>> (((8 : Int32) * (p0 &&& (3 : Int32))) &&& 31).toUInt32).toInt32).toInt8.toInt32)
theorem own_nn (x : Int32) : nar .byte x.toInt8.toInt32 = x.toInt8.toInt32 := by
  show (x.toInt8.toInt32).toInt8.toInt32 = x.toInt8.toInt32
  simp
theorem own_pkn (p0 p1 : Int32) (q2 : Int64) (p4 : Int32) : nar .byte (own_pk p0 p1 q2 p4) = own_pk p0 p1 q2 p4 := by
  unfold own_pk; split <;> rw [own_nn, own_nn]
theorem own_pkf (p0 p1 : Int32) (q2 : Int64) (p4 : Int32) : fits .byte (.int (own_pk p0 p1 q2 p4)) = true := by
  unfold own_pk; split <;> exact fits_nar_byte _
theorem own_pkv {p0 p1 i : Int32} {q2 : Int64} {p4 : Int32} (h : ¬ p0 < p1 ∧ p0 < (p1 + (8 : Int32))) (e : p0 - p1 = i) : own_pk p0 p1 q2 p4 = own_by q2 i := by
  unfold own_pk own_by; rw [if_pos h, e]; exact own_nn _
def own_Nine (b : Int32) : Prop := b = (0 : Int32) ∨ b = (1 : Int32) ∨ b = (2 : Int32) ∨ b = (3 : Int32) ∨ b = (4 : Int32) ∨ b = (5 : Int32) ∨ b = (6 : Int32) ∨ b = (7 : Int32) ∨ b = (8 : Int32)
theorem own_nine (x : Int32) : own_Nine ((x &&& (2147483647 : Int32)) % (9 : Int32)) := by
  have a1 := (c_and x 2147483647 (by decide)).1
  have a2 := (c_irem (x &&& 2147483647) 9 9 (by decide)).1 a1
  have e : ∀ k : Int32, ((x &&& 2147483647) % 9) = k ↔ (x &&& 2147483647).toInt % 9 = k.toInt := fun k => by rw [← Int32.toInt_inj, a2]
  simp only [own_Nine, e]
  rw [show (0 : Int32).toInt = 0 from by decide, show (1 : Int32).toInt = 1 from by decide, show (2 : Int32).toInt = 2 from by decide, show (3 : Int32).toInt = 3 from by decide, show (4 : Int32).toInt = 4 from by decide, show (5 : Int32).toInt = 5 from by decide, show (6 : Int32).toInt = 6 from by decide, show (7 : Int32).toInt = 7 from by decide, show (8 : Int32).toInt = 8 from by decide]
  omega
def own_Four (b : Int32) : Prop := b = (0 : Int32) ∨ b = (1 : Int32) ∨ b = (2 : Int32) ∨ b = (3 : Int32)
theorem own_four (x : Int32) : own_Four (x &&& (3 : Int32)) := by
  have a2 : (x &&& 3).toInt = x.toInt % 4 := c_mask x 3 2 (by decide) (by decide)
  have e : ∀ k : Int32, (x &&& 3) = k ↔ x.toInt % 4 = k.toInt := fun k => by rw [← Int32.toInt_inj, a2]
  simp only [own_Four, e]
  rw [show (0 : Int32).toInt = 0 from by decide, show (1 : Int32).toInt = 1 from by decide, show (2 : Int32).toInt = 2 from by decide, show (3 : Int32).toInt = 3 from by decide]
  omega
theorem own_byv (v : Int64) (u : Int64) (i : Int32) (hu : ((v.toUInt64 >>> (((8 : Int32) * i) &&& 0x3f).toInt64.toUInt64).toInt64) = u) : (((own_by v i) &&& (255 : Int32)).toInt64).toInt = u.toInt % 256 := by
  unfold own_by
  rw [hu, c_i2l]
  have m : ((u.toInt32.toInt8.toInt32) &&& (255 : Int32)).toInt = (u.toInt32.toInt8.toInt32).toInt % 256 := c_mask _ 255 8 (by decide) (by decide)
  have a := c_i2b u.toInt32
  have b := c_l2i u
  rw [m]; omega
theorem own_sh0 (v : Int64) : ((v.toUInt64 >>> (((8 : Int32) * (0 : Int32)) &&& 0x3f).toInt64.toUInt64).toInt64) = v := by
  rw [show (((8 : Int32) * (0 : Int32)) &&& 0x3f).toInt64.toUInt64 = 0 from by decide]
  simp
theorem own_step_0 (v : Int64) : ((0 : Int64) ||| (((own_by v (0 : Int32)) &&& (255 : Int32)).toInt64 <<< ((0 : Int32) &&& 0x3f).toInt64)) = (v &&& (((1 : Int64) <<< ((8 : Int32) &&& 0x3f).toInt64) - (1 : Int64))) := by
  rw [← Int64.toInt_inj]
  have rv := rng64 v
  have hb := own_byv v v 0 (own_sh0 v)
  have hl := c_lshl (((own_by v (0 : Int32)) &&& (255 : Int32)).toInt64) (0 : Int32) 0 (by decide)
  rw [show ((2 ^ 0 : Nat) : Int) = 1 from by decide] at hl
  have rl := rng64 (((own_by v (0 : Int32)) &&& (255 : Int32)).toInt64 <<< ((0 : Int32) &&& 0x3f).toInt64)
  have hacc : (0 : Int64).toInt = 0 := by decide
  have ho := c_orL' ((0 : Int64)) ((((own_by v (0 : Int32)) &&& (255 : Int32)).toInt64 <<< ((0 : Int32) &&& 0x3f).toInt64)) 0 (by decide) 1 (by decide) (by omega) (by omega) (by omega)
  have ro := rng64 ((0 : Int64) ||| (((own_by v (0 : Int32)) &&& (255 : Int32)).toInt64 <<< ((0 : Int32) &&& 0x3f).toInt64))
  have hfin : ((v &&& (((1 : Int64) <<< ((8 : Int32) &&& 0x3f).toInt64) - (1 : Int64)))).toInt = v.toInt % 256 := by
    have := c_maskL v (((1 : Int64) <<< ((8 : Int32) &&& 0x3f).toInt64) - (1 : Int64)) 8 (by decide) (by decide)
    rw [show ((2 ^ 8 : Nat) : Int) = 256 from by decide] at this
    exact this
  rw [hfin]
  omega
theorem own_step_1 (v : Int64) : ((v &&& (((1 : Int64) <<< ((8 : Int32) &&& 0x3f).toInt64) - (1 : Int64))) ||| (((own_by v (1 : Int32)) &&& (255 : Int32)).toInt64 <<< ((8 : Int32) &&& 0x3f).toInt64)) = (v &&& (((1 : Int64) <<< ((16 : Int32) &&& 0x3f).toInt64) - (1 : Int64))) := by
  rw [← Int64.toInt_inj]
  have rv := rng64 v
  have hs := c_lushr v ((8 : Int32) * (1 : Int32)) 8 (by decide) (by decide)
  have hb := own_byv v _ 1 rfl
  rw [hs] at hb
  rw [show ((2 ^ 8 : Nat) : Int) = 256 from by decide] at hb
  have hl := c_lshl (((own_by v (1 : Int32)) &&& (255 : Int32)).toInt64) (8 : Int32) 8 (by decide)
  rw [show ((2 ^ 8 : Nat) : Int) = 256 from by decide] at hl
  have rl := rng64 (((own_by v (1 : Int32)) &&& (255 : Int32)).toInt64 <<< ((8 : Int32) &&& 0x3f).toInt64)
  have hacc : ((v &&& (((1 : Int64) <<< ((8 : Int32) &&& 0x3f).toInt64) - (1 : Int64)))).toInt = v.toInt % 256 := by
    have := c_maskL v (((1 : Int64) <<< ((8 : Int32) &&& 0x3f).toInt64) - (1 : Int64)) 8 (by decide) (by decide)
    rw [show ((2 ^ 8 : Nat) : Int) = 256 from by decide] at this
    exact this
  have ho := c_orL' ((v &&& (((1 : Int64) <<< ((8 : Int32) &&& 0x3f).toInt64) - (1 : Int64)))) ((((own_by v (1 : Int32)) &&& (255 : Int32)).toInt64 <<< ((8 : Int32) &&& 0x3f).toInt64)) 8 (by decide) 256 (by decide) (by omega) (by omega) (by omega)
  have ro := rng64 ((v &&& (((1 : Int64) <<< ((8 : Int32) &&& 0x3f).toInt64) - (1 : Int64))) ||| (((own_by v (1 : Int32)) &&& (255 : Int32)).toInt64 <<< ((8 : Int32) &&& 0x3f).toInt64))
  have hfin : ((v &&& (((1 : Int64) <<< ((16 : Int32) &&& 0x3f).toInt64) - (1 : Int64)))).toInt = v.toInt % 65536 := by
    have := c_maskL v (((1 : Int64) <<< ((16 : Int32) &&& 0x3f).toInt64) - (1 : Int64)) 16 (by decide) (by decide)
    rw [show ((2 ^ 16 : Nat) : Int) = 65536 from by decide] at this
    exact this
  rw [hfin]
  omega
theorem own_step_2 (v : Int64) : ((v &&& (((1 : Int64) <<< ((16 : Int32) &&& 0x3f).toInt64) - (1 : Int64))) ||| (((own_by v (2 : Int32)) &&& (255 : Int32)).toInt64 <<< ((16 : Int32) &&& 0x3f).toInt64)) = (v &&& (((1 : Int64) <<< ((24 : Int32) &&& 0x3f).toInt64) - (1 : Int64))) := by
  rw [← Int64.toInt_inj]
  have rv := rng64 v
  have hs := c_lushr v ((8 : Int32) * (2 : Int32)) 16 (by decide) (by decide)
  have hb := own_byv v _ 2 rfl
  rw [hs] at hb
  rw [show ((2 ^ 16 : Nat) : Int) = 65536 from by decide] at hb
  have hl := c_lshl (((own_by v (2 : Int32)) &&& (255 : Int32)).toInt64) (16 : Int32) 16 (by decide)
  rw [show ((2 ^ 16 : Nat) : Int) = 65536 from by decide] at hl
  have rl := rng64 (((own_by v (2 : Int32)) &&& (255 : Int32)).toInt64 <<< ((16 : Int32) &&& 0x3f).toInt64)
  have hacc : ((v &&& (((1 : Int64) <<< ((16 : Int32) &&& 0x3f).toInt64) - (1 : Int64)))).toInt = v.toInt % 65536 := by
    have := c_maskL v (((1 : Int64) <<< ((16 : Int32) &&& 0x3f).toInt64) - (1 : Int64)) 16 (by decide) (by decide)
    rw [show ((2 ^ 16 : Nat) : Int) = 65536 from by decide] at this
    exact this
  have ho := c_orL' ((v &&& (((1 : Int64) <<< ((16 : Int32) &&& 0x3f).toInt64) - (1 : Int64)))) ((((own_by v (2 : Int32)) &&& (255 : Int32)).toInt64 <<< ((16 : Int32) &&& 0x3f).toInt64)) 16 (by decide) 65536 (by decide) (by omega) (by omega) (by omega)
  have ro := rng64 ((v &&& (((1 : Int64) <<< ((16 : Int32) &&& 0x3f).toInt64) - (1 : Int64))) ||| (((own_by v (2 : Int32)) &&& (255 : Int32)).toInt64 <<< ((16 : Int32) &&& 0x3f).toInt64))
  have hfin : ((v &&& (((1 : Int64) <<< ((24 : Int32) &&& 0x3f).toInt64) - (1 : Int64)))).toInt = v.toInt % 16777216 := by
    have := c_maskL v (((1 : Int64) <<< ((24 : Int32) &&& 0x3f).toInt64) - (1 : Int64)) 24 (by decide) (by decide)
    rw [show ((2 ^ 24 : Nat) : Int) = 16777216 from by decide] at this
    exact this
  rw [hfin]
  omega
theorem own_step_3 (v : Int64) : ((v &&& (((1 : Int64) <<< ((24 : Int32) &&& 0x3f).toInt64) - (1 : Int64))) ||| (((own_by v (3 : Int32)) &&& (255 : Int32)).toInt64 <<< ((24 : Int32) &&& 0x3f).toInt64)) = (v &&& (((1 : Int64) <<< ((32 : Int32) &&& 0x3f).toInt64) - (1 : Int64))) := by
  rw [← Int64.toInt_inj]
  have rv := rng64 v
  have hs := c_lushr v ((8 : Int32) * (3 : Int32)) 24 (by decide) (by decide)
  have hb := own_byv v _ 3 rfl
  rw [hs] at hb
  rw [show ((2 ^ 24 : Nat) : Int) = 16777216 from by decide] at hb
  have hl := c_lshl (((own_by v (3 : Int32)) &&& (255 : Int32)).toInt64) (24 : Int32) 24 (by decide)
  rw [show ((2 ^ 24 : Nat) : Int) = 16777216 from by decide] at hl
  have rl := rng64 (((own_by v (3 : Int32)) &&& (255 : Int32)).toInt64 <<< ((24 : Int32) &&& 0x3f).toInt64)
  have hacc : ((v &&& (((1 : Int64) <<< ((24 : Int32) &&& 0x3f).toInt64) - (1 : Int64)))).toInt = v.toInt % 16777216 := by
    have := c_maskL v (((1 : Int64) <<< ((24 : Int32) &&& 0x3f).toInt64) - (1 : Int64)) 24 (by decide) (by decide)
    rw [show ((2 ^ 24 : Nat) : Int) = 16777216 from by decide] at this
    exact this
  have ho := c_orL' ((v &&& (((1 : Int64) <<< ((24 : Int32) &&& 0x3f).toInt64) - (1 : Int64)))) ((((own_by v (3 : Int32)) &&& (255 : Int32)).toInt64 <<< ((24 : Int32) &&& 0x3f).toInt64)) 24 (by decide) 16777216 (by decide) (by omega) (by omega) (by omega)
  have ro := rng64 ((v &&& (((1 : Int64) <<< ((24 : Int32) &&& 0x3f).toInt64) - (1 : Int64))) ||| (((own_by v (3 : Int32)) &&& (255 : Int32)).toInt64 <<< ((24 : Int32) &&& 0x3f).toInt64))
  have hfin : ((v &&& (((1 : Int64) <<< ((32 : Int32) &&& 0x3f).toInt64) - (1 : Int64)))).toInt = v.toInt % 4294967296 := by
    have := c_maskL v (((1 : Int64) <<< ((32 : Int32) &&& 0x3f).toInt64) - (1 : Int64)) 32 (by decide) (by decide)
    rw [show ((2 ^ 32 : Nat) : Int) = 4294967296 from by decide] at this
    exact this
  rw [hfin]
  omega
theorem own_step_4 (v : Int64) : ((v &&& (((1 : Int64) <<< ((32 : Int32) &&& 0x3f).toInt64) - (1 : Int64))) ||| (((own_by v (4 : Int32)) &&& (255 : Int32)).toInt64 <<< ((32 : Int32) &&& 0x3f).toInt64)) = (v &&& (((1 : Int64) <<< ((40 : Int32) &&& 0x3f).toInt64) - (1 : Int64))) := by
  rw [← Int64.toInt_inj]
  have rv := rng64 v
  have hs := c_lushr v ((8 : Int32) * (4 : Int32)) 32 (by decide) (by decide)
  have hb := own_byv v _ 4 rfl
  rw [hs] at hb
  rw [show ((2 ^ 32 : Nat) : Int) = 4294967296 from by decide] at hb
  have hl := c_lshl (((own_by v (4 : Int32)) &&& (255 : Int32)).toInt64) (32 : Int32) 32 (by decide)
  rw [show ((2 ^ 32 : Nat) : Int) = 4294967296 from by decide] at hl
  have rl := rng64 (((own_by v (4 : Int32)) &&& (255 : Int32)).toInt64 <<< ((32 : Int32) &&& 0x3f).toInt64)
  have hacc : ((v &&& (((1 : Int64) <<< ((32 : Int32) &&& 0x3f).toInt64) - (1 : Int64)))).toInt = v.toInt % 4294967296 := by
    have := c_maskL v (((1 : Int64) <<< ((32 : Int32) &&& 0x3f).toInt64) - (1 : Int64)) 32 (by decide) (by decide)
    rw [show ((2 ^ 32 : Nat) : Int) = 4294967296 from by decide] at this
    exact this
  have ho := c_orL' ((v &&& (((1 : Int64) <<< ((32 : Int32) &&& 0x3f).toInt64) - (1 : Int64)))) ((((own_by v (4 : Int32)) &&& (255 : Int32)).toInt64 <<< ((32 : Int32) &&& 0x3f).toInt64)) 32 (by decide) 4294967296 (by decide) (by omega) (by omega) (by omega)
  have ro := rng64 ((v &&& (((1 : Int64) <<< ((32 : Int32) &&& 0x3f).toInt64) - (1 : Int64))) ||| (((own_by v (4 : Int32)) &&& (255 : Int32)).toInt64 <<< ((32 : Int32) &&& 0x3f).toInt64))
  have hfin : ((v &&& (((1 : Int64) <<< ((40 : Int32) &&& 0x3f).toInt64) - (1 : Int64)))).toInt = v.toInt % 1099511627776 := by
    have := c_maskL v (((1 : Int64) <<< ((40 : Int32) &&& 0x3f).toInt64) - (1 : Int64)) 40 (by decide) (by decide)
    rw [show ((2 ^ 40 : Nat) : Int) = 1099511627776 from by decide] at this
    exact this
  rw [hfin]
  omega
theorem own_step_5 (v : Int64) : ((v &&& (((1 : Int64) <<< ((40 : Int32) &&& 0x3f).toInt64) - (1 : Int64))) ||| (((own_by v (5 : Int32)) &&& (255 : Int32)).toInt64 <<< ((40 : Int32) &&& 0x3f).toInt64)) = (v &&& (((1 : Int64) <<< ((48 : Int32) &&& 0x3f).toInt64) - (1 : Int64))) := by
  rw [← Int64.toInt_inj]
  have rv := rng64 v
  have hs := c_lushr v ((8 : Int32) * (5 : Int32)) 40 (by decide) (by decide)
  have hb := own_byv v _ 5 rfl
  rw [hs] at hb
  rw [show ((2 ^ 40 : Nat) : Int) = 1099511627776 from by decide] at hb
  have hl := c_lshl (((own_by v (5 : Int32)) &&& (255 : Int32)).toInt64) (40 : Int32) 40 (by decide)
  rw [show ((2 ^ 40 : Nat) : Int) = 1099511627776 from by decide] at hl
  have rl := rng64 (((own_by v (5 : Int32)) &&& (255 : Int32)).toInt64 <<< ((40 : Int32) &&& 0x3f).toInt64)
  have hacc : ((v &&& (((1 : Int64) <<< ((40 : Int32) &&& 0x3f).toInt64) - (1 : Int64)))).toInt = v.toInt % 1099511627776 := by
    have := c_maskL v (((1 : Int64) <<< ((40 : Int32) &&& 0x3f).toInt64) - (1 : Int64)) 40 (by decide) (by decide)
    rw [show ((2 ^ 40 : Nat) : Int) = 1099511627776 from by decide] at this
    exact this
  have ho := c_orL' ((v &&& (((1 : Int64) <<< ((40 : Int32) &&& 0x3f).toInt64) - (1 : Int64)))) ((((own_by v (5 : Int32)) &&& (255 : Int32)).toInt64 <<< ((40 : Int32) &&& 0x3f).toInt64)) 40 (by decide) 1099511627776 (by decide) (by omega) (by omega) (by omega)
  have ro := rng64 ((v &&& (((1 : Int64) <<< ((40 : Int32) &&& 0x3f).toInt64) - (1 : Int64))) ||| (((own_by v (5 : Int32)) &&& (255 : Int32)).toInt64 <<< ((40 : Int32) &&& 0x3f).toInt64))
  have hfin : ((v &&& (((1 : Int64) <<< ((48 : Int32) &&& 0x3f).toInt64) - (1 : Int64)))).toInt = v.toInt % 281474976710656 := by
    have := c_maskL v (((1 : Int64) <<< ((48 : Int32) &&& 0x3f).toInt64) - (1 : Int64)) 48 (by decide) (by decide)
    rw [show ((2 ^ 48 : Nat) : Int) = 281474976710656 from by decide] at this
    exact this
  rw [hfin]
  omega
theorem own_step_6 (v : Int64) : ((v &&& (((1 : Int64) <<< ((48 : Int32) &&& 0x3f).toInt64) - (1 : Int64))) ||| (((own_by v (6 : Int32)) &&& (255 : Int32)).toInt64 <<< ((48 : Int32) &&& 0x3f).toInt64)) = (v &&& (((1 : Int64) <<< ((56 : Int32) &&& 0x3f).toInt64) - (1 : Int64))) := by
  rw [← Int64.toInt_inj]
  have rv := rng64 v
  have hs := c_lushr v ((8 : Int32) * (6 : Int32)) 48 (by decide) (by decide)
  have hb := own_byv v _ 6 rfl
  rw [hs] at hb
  rw [show ((2 ^ 48 : Nat) : Int) = 281474976710656 from by decide] at hb
  have hl := c_lshl (((own_by v (6 : Int32)) &&& (255 : Int32)).toInt64) (48 : Int32) 48 (by decide)
  rw [show ((2 ^ 48 : Nat) : Int) = 281474976710656 from by decide] at hl
  have rl := rng64 (((own_by v (6 : Int32)) &&& (255 : Int32)).toInt64 <<< ((48 : Int32) &&& 0x3f).toInt64)
  have hacc : ((v &&& (((1 : Int64) <<< ((48 : Int32) &&& 0x3f).toInt64) - (1 : Int64)))).toInt = v.toInt % 281474976710656 := by
    have := c_maskL v (((1 : Int64) <<< ((48 : Int32) &&& 0x3f).toInt64) - (1 : Int64)) 48 (by decide) (by decide)
    rw [show ((2 ^ 48 : Nat) : Int) = 281474976710656 from by decide] at this
    exact this
  have ho := c_orL' ((v &&& (((1 : Int64) <<< ((48 : Int32) &&& 0x3f).toInt64) - (1 : Int64)))) ((((own_by v (6 : Int32)) &&& (255 : Int32)).toInt64 <<< ((48 : Int32) &&& 0x3f).toInt64)) 48 (by decide) 281474976710656 (by decide) (by omega) (by omega) (by omega)
  have ro := rng64 ((v &&& (((1 : Int64) <<< ((48 : Int32) &&& 0x3f).toInt64) - (1 : Int64))) ||| (((own_by v (6 : Int32)) &&& (255 : Int32)).toInt64 <<< ((48 : Int32) &&& 0x3f).toInt64))
  have hfin : ((v &&& (((1 : Int64) <<< ((56 : Int32) &&& 0x3f).toInt64) - (1 : Int64)))).toInt = v.toInt % 72057594037927936 := by
    have := c_maskL v (((1 : Int64) <<< ((56 : Int32) &&& 0x3f).toInt64) - (1 : Int64)) 56 (by decide) (by decide)
    rw [show ((2 ^ 56 : Nat) : Int) = 72057594037927936 from by decide] at this
    exact this
  rw [hfin]
  omega
theorem own_step_7 (v : Int64) : ((v &&& (((1 : Int64) <<< ((56 : Int32) &&& 0x3f).toInt64) - (1 : Int64))) ||| (((own_by v (7 : Int32)) &&& (255 : Int32)).toInt64 <<< ((56 : Int32) &&& 0x3f).toInt64)) = v := by
  rw [← Int64.toInt_inj]
  have rv := rng64 v
  have hs := c_lushr v ((8 : Int32) * (7 : Int32)) 56 (by decide) (by decide)
  have hb := own_byv v _ 7 rfl
  rw [hs] at hb
  rw [show ((2 ^ 56 : Nat) : Int) = 72057594037927936 from by decide] at hb
  have hl := c_lshl (((own_by v (7 : Int32)) &&& (255 : Int32)).toInt64) (56 : Int32) 56 (by decide)
  rw [show ((2 ^ 56 : Nat) : Int) = 72057594037927936 from by decide] at hl
  have rl := rng64 (((own_by v (7 : Int32)) &&& (255 : Int32)).toInt64 <<< ((56 : Int32) &&& 0x3f).toInt64)
  have hacc : ((v &&& (((1 : Int64) <<< ((56 : Int32) &&& 0x3f).toInt64) - (1 : Int64)))).toInt = v.toInt % 72057594037927936 := by
    have := c_maskL v (((1 : Int64) <<< ((56 : Int32) &&& 0x3f).toInt64) - (1 : Int64)) 56 (by decide) (by decide)
    rw [show ((2 ^ 56 : Nat) : Int) = 72057594037927936 from by decide] at this
    exact this
  have ho := c_orL' ((v &&& (((1 : Int64) <<< ((56 : Int32) &&& 0x3f).toInt64) - (1 : Int64)))) ((((own_by v (7 : Int32)) &&& (255 : Int32)).toInt64 <<< ((56 : Int32) &&& 0x3f).toInt64)) 56 (by decide) 72057594037927936 (by decide) (by omega) (by omega) (by omega)
  have ro := rng64 ((v &&& (((1 : Int64) <<< ((56 : Int32) &&& 0x3f).toInt64) - (1 : Int64))) ||| (((own_by v (7 : Int32)) &&& (255 : Int32)).toInt64 <<< ((56 : Int32) &&& 0x3f).toInt64))
  omega
theorem own_none (v : Int64) : (0 : Int64) = (v &&& (((1 : Int64) <<< ((0 : Int32) &&& 0x3f).toInt64) - (1 : Int64))) := by
  rw [show ((1 : Int64) <<< ((0 : Int32) &&& 0x3f).toInt64) - (1 : Int64) = 0 from by decide]
  simp
def Qr (r : Value) (h0 : Heap) (n0 : Nat) (v : Option Value) (h : Heap) (L : List Loc) : Prop := v = some r ∧ Fr n0 L ∧ h = h0
def own_Lt8 (i : Int32) : Prop := i = (0 : Int32) ∨ i = (1 : Int32) ∨ i = (2 : Int32) ∨ i = (3 : Int32) ∨ i = (4 : Int32) ∨ i = (5 : Int32) ∨ i = (6 : Int32) ∨ i = (7 : Int32)
def own_Hat (vs : List Value) (p1 : Int32) (q : Int64) : Prop := ∀ i : Int32, own_Lt8 i → (¬ (p1 + i) < 0 ∧ (p1 + i) < (12 : Int32)) ∧ vs.getD (p1 + i).toNatClampNeg (.int (0 : Int32)) = .int (own_by q i)
set_option maxRecDepth 65536 in
set_option maxHeartbeats 40000000 in
theorem rm1 (l : Launch) (Z : State) (a0 : Array Value) (hw : ∀ d ∈ tables_1, d.before a0 Z = true) (ws : List Jvm.Cond) (p0 p1 : Int32) (q2 : Int64) (p4 : Int32) (h0 : Heap) (n0 : Nat) (Z0 : n0 ≤ h0.size) :
    MetFree l (⟨"com/example/ledgerline/ledgerline/format/GrowingBytesLittleEndianPinLaw", "pick", "(IIJI)B"⟩ : MethodName) (head1 (Jvm.Cond.code (⟨"com/example/ledgerline/ledgerline/format/GrowingBytesLittleEndianPinLaw", "pick", "(IIJI)B"⟩ : MethodName) method_3_code 5 (some .byte) :: ws) ({ frames := 0, cells := 0, slots := 0, locals := 0 } : Room)) (fun aa UU => aa = #[(.int p0), (.int p1), (.long q2), (.int p4)] ∧ Z.Warmed39 UU.vm ∧ UU.heap = h0) (fun _ _ _ _ _ => True) (fun _ UU oo U' => ∃ v L, oo = .returned v ∧ Qr (.int (own_pk p0 p1 q2 p4)) h0 n0 v U'.heap L ∧ FrameEnd UU oo U' L ({ frames := 0, cells := 0, slots := 0, locals := 0 } : Room).cells ({ frames := 0, cells := 0, slots := 0, locals := 0 } : Room).slots) := by
  refine MetFree.of_bodySF (plainFor_of_name pn_0) hisR ?_
  intro p e s m args below meth c s₁ Bd hml0 hP hK
  obtain ⟨rfl, hZ, hh⟩ := hP
  have hx := Bd.exec
  have hby := Bd.bytes
  have hml : c.maxLocals = 5 := hml0
  have hown : s.vm.findClass "com/example/ledgerline/ledgerline/format/GrowingBytesLittleEndianPinLaw" = some m.cls := findClass_of_methodNamed Bd.named
  have hnm := (name_of_methodNamed Bd.named Bd.method).1
  have X0 : Stand p l e ({ frames := 0, cells := 0, slots := 0, locals := 0 } : Room) s m #[(.int p0), (.int p1), (.long q2), (.int p4)] below meth c s₁ [] 0 0 := Stand.of_body Bd
  have e0 : s₁.heap = h0 := by rw [← hh, Bd.state]; rfl
  have N0 := Fr.nil n0
  obtain ⟨A0, hA0⟩ : ∃ A, A = s₁.setTop (entryFrame m #[(.int p0), (.int p1), (.long q2), (.int p4)] 5) := ⟨_, rfl⟩
  have G0 : Go p e below A0 (s₁.setTop (mkF m 0 #[.val (.int p0), .val (.int p1), .val (.long q2), .second, .val (.int p4)] [])) := fun tq kq => by rw [hA0]; exact castTop (ef_rm1 m p0 p1 q2 p4) kq
  have G1 : Go p e below A0 (s₁.setTop (mkF m 2 #[.val (.int p0), .val (.int p1), .val (.long q2), .second, .val (.int p4)] [(.int p1), (.int p0)])) := fun tq kq => G0 tq (by
    refine XS.iloadN X0.here hx rfl (hb hby d1_0) rfl ?_
    show Steps p.tables e below (s₁.setTop (mkF m 1 #[.val (.int p0), .val (.int p1), .val (.long q2), .second, .val (.int p4)] [(.int p0)])) _
    refine XS.iloadN X0.here hx rfl (hb hby d1_1) rfl ?_
    show Steps p.tables e below (s₁.setTop (mkF m 2 #[.val (.int p0), .val (.int p1), .val (.long q2), .second, .val (.int p4)] [(.int p1), (.int p0)])) _
    exact kq)
  by_cases hc2 : p0 < p1
  · have G3 : Go p e below A0 (s₁.setTop (mkF m 34 #[.val (.int p0), .val (.int p1), .val (.long q2), .second, .val (.int p4)] [(.int ((p4.toUInt32 >>> (((8 : Int32) * (p0 &&& (3 : Int32))) &&& 31).toUInt32).toInt32).toInt8.toInt32)])) := fun tq kq => G1 tq (by
      refine XS.icmpYes X0.here hx rfl (pc0 := 2) (pc' := 24) rfl (hb hby d1_2) rfl (tlt hc2).1 (by decide) (by decide) ?_
      show Steps p.tables e below (s₁.setTop (mkF m 24 #[.val (.int p0), .val (.int p1), .val (.long q2), .second, .val (.int p4)] [])) _
      refine XS.iload X0.here hx rfl (hb hby d1_24) rfl ?_
      show Steps p.tables e below (s₁.setTop (mkF m 26 #[.val (.int p0), .val (.int p1), .val (.long q2), .second, .val (.int p4)] [(.int p4)])) _
      refine XS.bipush X0.here hx rfl (hb hby d1_26) ?_
      show Steps p.tables e below (s₁.setTop (mkF m 28 #[.val (.int p0), .val (.int p1), .val (.long q2), .second, .val (.int p4)] [(.int (8 : Int32)), (.int p4)])) _
      refine XS.iloadN X0.here hx rfl (hb hby d1_28) rfl ?_
      show Steps p.tables e below (s₁.setTop (mkF m 29 #[.val (.int p0), .val (.int p1), .val (.long q2), .second, .val (.int p4)] [(.int p0), (.int (8 : Int32)), (.int p4)])) _
      refine XS.iconst X0.here hx rfl (hb hby d1_29) ?_
      show Steps p.tables e below (s₁.setTop (mkF m 30 #[.val (.int p0), .val (.int p1), .val (.long q2), .second, .val (.int p4)] [(.int (3 : Int32)), (.int p0), (.int (8 : Int32)), (.int p4)])) _
      refine XS.iand X0.here hx rfl (hb hby d1_30) rfl ?_
      show Steps p.tables e below (s₁.setTop (mkF m 31 #[.val (.int p0), .val (.int p1), .val (.long q2), .second, .val (.int p4)] [(.int (p0 &&& (3 : Int32))), (.int (8 : Int32)), (.int p4)])) _
      refine XS.imul X0.here hx rfl (hb hby d1_31) rfl ?_
      show Steps p.tables e below (s₁.setTop (mkF m 32 #[.val (.int p0), .val (.int p1), .val (.long q2), .second, .val (.int p4)] [(.int ((8 : Int32) * (p0 &&& (3 : Int32)))), (.int p4)])) _
      refine XS.iushr X0.here hx rfl (hb hby d1_32) rfl ?_
      show Steps p.tables e below (s₁.setTop (mkF m 33 #[.val (.int p0), .val (.int p1), .val (.long q2), .second, .val (.int p4)] [(.int ((p4.toUInt32 >>> (((8 : Int32) * (p0 &&& (3 : Int32))) &&& 31).toUInt32).toInt32))])) _
      refine XS.i2b X0.here hx rfl (hb hby d1_33) rfl ?_
      show Steps p.tables e below (s₁.setTop (mkF m 34 #[.val (.int p0), .val (.int p1), .val (.long q2), .second, .val (.int p4)] [(.int ((p4.toUInt32 >>> (((8 : Int32) * (p0 &&& (3 : Int32))) &&& 31).toUInt32).toInt32).toInt8.toInt32)])) _
      exact kq)
    obtain ⟨fs, hr, hrun, hended, hW, hsame⟩ := X0.leave (v := some (.int (nar .byte ((p4.toUInt32 >>> (((8 : Int32) * (p0 &&& (3 : Int32))) &&& 31).toUInt32).toInt32).toInt8.toInt32))) (fun h => by rw [Bd.returns] at h; cases h)
    refine ⟨_, _, (by rw [← hA0]; exact G3 _ (retN X0 hx (t := .byte) Bd.returns (by simp) (hb hby d1_34) hr)), hrun, hended, _, _, rfl, ?_, ⟨_, rfl⟩, hW, hsame.mono (by decide) (by decide)⟩
    exact ⟨(by simp only [own_pk, hc2, not_true_eq_false, not_false_eq_true, and_true, true_and, and_false, false_and, if_true, if_false]), N0, e0⟩
  · have G4 : Go p e below A0 (s₁.setTop (mkF m 10 #[.val (.int p0), .val (.int p1), .val (.long q2), .second, .val (.int p4)] [(.int (p1 + (8 : Int32))), (.int p0)])) := fun tq kq => G1 tq (by
      refine XS.icmpNo X0.here hx rfl (hb hby d1_2) rfl (flt hc2).1 ?_
      show Steps p.tables e below (s₁.setTop (mkF m 5 #[.val (.int p0), .val (.int p1), .val (.long q2), .second, .val (.int p4)] [])) _
      refine XS.iloadN X0.here hx rfl (hb hby d1_5) rfl ?_
      show Steps p.tables e below (s₁.setTop (mkF m 6 #[.val (.int p0), .val (.int p1), .val (.long q2), .second, .val (.int p4)] [(.int p0)])) _
      refine XS.iloadN X0.here hx rfl (hb hby d1_6) rfl ?_
      show Steps p.tables e below (s₁.setTop (mkF m 7 #[.val (.int p0), .val (.int p1), .val (.long q2), .second, .val (.int p4)] [(.int p1), (.int p0)])) _
      refine XS.bipush X0.here hx rfl (hb hby d1_7) ?_
      show Steps p.tables e below (s₁.setTop (mkF m 9 #[.val (.int p0), .val (.int p1), .val (.long q2), .second, .val (.int p4)] [(.int (8 : Int32)), (.int p1), (.int p0)])) _
      refine XS.iadd X0.here hx rfl (hb hby d1_9) rfl ?_
      show Steps p.tables e below (s₁.setTop (mkF m 10 #[.val (.int p0), .val (.int p1), .val (.long q2), .second, .val (.int p4)] [(.int (p1 + (8 : Int32))), (.int p0)])) _
      exact kq)
    by_cases hc5 : p0 < (p1 + (8 : Int32))
    · have G6 : Go p e below A0 (s₁.setTop (mkF m 23 #[.val (.int p0), .val (.int p1), .val (.long q2), .second, .val (.int p4)] [(.int ((q2.toUInt64 >>> (((8 : Int32) * (p0 - p1)) &&& 0x3f).toInt64.toUInt64).toInt64).toInt32.toInt8.toInt32)])) := fun tq kq => G4 tq (by
        refine XS.icmpNo X0.here hx rfl (hb hby d1_10) rfl (tlt hc5).2.1 ?_
        show Steps p.tables e below (s₁.setTop (mkF m 13 #[.val (.int p0), .val (.int p1), .val (.long q2), .second, .val (.int p4)] [])) _
        refine XS.lloadN X0.here hx rfl (hb hby d1_13) rfl ?_
        show Steps p.tables e below (s₁.setTop (mkF m 14 #[.val (.int p0), .val (.int p1), .val (.long q2), .second, .val (.int p4)] [(.long q2)])) _
        refine XS.bipush X0.here hx rfl (hb hby d1_14) ?_
        show Steps p.tables e below (s₁.setTop (mkF m 16 #[.val (.int p0), .val (.int p1), .val (.long q2), .second, .val (.int p4)] [(.int (8 : Int32)), (.long q2)])) _
        refine XS.iloadN X0.here hx rfl (hb hby d1_16) rfl ?_
        show Steps p.tables e below (s₁.setTop (mkF m 17 #[.val (.int p0), .val (.int p1), .val (.long q2), .second, .val (.int p4)] [(.int p0), (.int (8 : Int32)), (.long q2)])) _
        refine XS.iloadN X0.here hx rfl (hb hby d1_17) rfl ?_
        show Steps p.tables e below (s₁.setTop (mkF m 18 #[.val (.int p0), .val (.int p1), .val (.long q2), .second, .val (.int p4)] [(.int p1), (.int p0), (.int (8 : Int32)), (.long q2)])) _
        refine XS.isub X0.here hx rfl (hb hby d1_18) rfl ?_
        show Steps p.tables e below (s₁.setTop (mkF m 19 #[.val (.int p0), .val (.int p1), .val (.long q2), .second, .val (.int p4)] [(.int (p0 - p1)), (.int (8 : Int32)), (.long q2)])) _
        refine XS.imul X0.here hx rfl (hb hby d1_19) rfl ?_
        show Steps p.tables e below (s₁.setTop (mkF m 20 #[.val (.int p0), .val (.int p1), .val (.long q2), .second, .val (.int p4)] [(.int ((8 : Int32) * (p0 - p1))), (.long q2)])) _
        refine XS.lushr X0.here hx rfl (hb hby d1_20) rfl ?_
        show Steps p.tables e below (s₁.setTop (mkF m 21 #[.val (.int p0), .val (.int p1), .val (.long q2), .second, .val (.int p4)] [(.long ((q2.toUInt64 >>> (((8 : Int32) * (p0 - p1)) &&& 0x3f).toInt64.toUInt64).toInt64))])) _
        refine XS.l2i X0.here hx rfl (hb hby d1_21) rfl ?_
        show Steps p.tables e below (s₁.setTop (mkF m 22 #[.val (.int p0), .val (.int p1), .val (.long q2), .second, .val (.int p4)] [(.int ((q2.toUInt64 >>> (((8 : Int32) * (p0 - p1)) &&& 0x3f).toInt64.toUInt64).toInt64).toInt32)])) _
        refine XS.i2b X0.here hx rfl (hb hby d1_22) rfl ?_
        show Steps p.tables e below (s₁.setTop (mkF m 23 #[.val (.int p0), .val (.int p1), .val (.long q2), .second, .val (.int p4)] [(.int ((q2.toUInt64 >>> (((8 : Int32) * (p0 - p1)) &&& 0x3f).toInt64.toUInt64).toInt64).toInt32.toInt8.toInt32)])) _
        exact kq)
      obtain ⟨fs, hr, hrun, hended, hW, hsame⟩ := X0.leave (v := some (.int (nar .byte ((q2.toUInt64 >>> (((8 : Int32) * (p0 - p1)) &&& 0x3f).toInt64.toUInt64).toInt64).toInt32.toInt8.toInt32))) (fun h => by rw [Bd.returns] at h; cases h)
      refine ⟨_, _, (by rw [← hA0]; exact G6 _ (retN X0 hx (t := .byte) Bd.returns (by simp) (hb hby d1_23) hr)), hrun, hended, _, _, rfl, ?_, ⟨_, rfl⟩, hW, hsame.mono (by decide) (by decide)⟩
      exact ⟨(by simp only [own_pk, hc2, hc5, not_true_eq_false, not_false_eq_true, and_true, true_and, and_false, false_and, if_true, if_false]), N0, e0⟩
    · have G7 : Go p e below A0 (s₁.setTop (mkF m 34 #[.val (.int p0), .val (.int p1), .val (.long q2), .second, .val (.int p4)] [(.int ((p4.toUInt32 >>> (((8 : Int32) * (p0 &&& (3 : Int32))) &&& 31).toUInt32).toInt32).toInt8.toInt32)])) := fun tq kq => G4 tq (by
        refine XS.icmpYes X0.here hx rfl (pc0 := 10) (pc' := 24) rfl (hb hby d1_10) rfl (flt hc5).2.1 (by decide) (by decide) ?_
        show Steps p.tables e below (s₁.setTop (mkF m 24 #[.val (.int p0), .val (.int p1), .val (.long q2), .second, .val (.int p4)] [])) _
        refine XS.iload X0.here hx rfl (hb hby d1_24) rfl ?_
        show Steps p.tables e below (s₁.setTop (mkF m 26 #[.val (.int p0), .val (.int p1), .val (.long q2), .second, .val (.int p4)] [(.int p4)])) _
        refine XS.bipush X0.here hx rfl (hb hby d1_26) ?_
        show Steps p.tables e below (s₁.setTop (mkF m 28 #[.val (.int p0), .val (.int p1), .val (.long q2), .second, .val (.int p4)] [(.int (8 : Int32)), (.int p4)])) _
        refine XS.iloadN X0.here hx rfl (hb hby d1_28) rfl ?_
        show Steps p.tables e below (s₁.setTop (mkF m 29 #[.val (.int p0), .val (.int p1), .val (.long q2), .second, .val (.int p4)] [(.int p0), (.int (8 : Int32)), (.int p4)])) _
        refine XS.iconst X0.here hx rfl (hb hby d1_29) ?_
        show Steps p.tables e below (s₁.setTop (mkF m 30 #[.val (.int p0), .val (.int p1), .val (.long q2), .second, .val (.int p4)] [(.int (3 : Int32)), (.int p0), (.int (8 : Int32)), (.int p4)])) _
        refine XS.iand X0.here hx rfl (hb hby d1_30) rfl ?_
        show Steps p.tables e below (s₁.setTop (mkF m 31 #[.val (.int p0), .val (.int p1), .val (.long q2), .second, .val (.int p4)] [(.int (p0 &&& (3 : Int32))), (.int (8 : Int32)), (.int p4)])) _
        refine XS.imul X0.here hx rfl (hb hby d1_31) rfl ?_
        show Steps p.tables e below (s₁.setTop (mkF m 32 #[.val (.int p0), .val (.int p1), .val (.long q2), .second, .val (.int p4)] [(.int ((8 : Int32) * (p0 &&& (3 : Int32)))), (.int p4)])) _
        refine XS.iushr X0.here hx rfl (hb hby d1_32) rfl ?_
        show Steps p.tables e below (s₁.setTop (mkF m 33 #[.val (.int p0), .val (.int p1), .val (.long q2), .second, .val (.int p4)] [(.int ((p4.toUInt32 >>> (((8 : Int32) * (p0 &&& (3 : Int32))) &&& 31).toUInt32).toInt32))])) _
        refine XS.i2b X0.here hx rfl (hb hby d1_33) rfl ?_
        show Steps p.tables e below (s₁.setTop (mkF m 34 #[.val (.int p0), .val (.int p1), .val (.long q2), .second, .val (.int p4)] [(.int ((p4.toUInt32 >>> (((8 : Int32) * (p0 &&& (3 : Int32))) &&& 31).toUInt32).toInt32).toInt8.toInt32)])) _
        exact kq)
      obtain ⟨fs, hr, hrun, hended, hW, hsame⟩ := X0.leave (v := some (.int (nar .byte ((p4.toUInt32 >>> (((8 : Int32) * (p0 &&& (3 : Int32))) &&& 31).toUInt32).toInt32).toInt8.toInt32))) (fun h => by rw [Bd.returns] at h; cases h)
      refine ⟨_, _, (by rw [← hA0]; exact G7 _ (retN X0 hx (t := .byte) Bd.returns (by simp) (hb hby d1_34) hr)), hrun, hended, _, _, rfl, ?_, ⟨_, rfl⟩, hW, hsame.mono (by decide) (by decide)⟩
      exact ⟨(by simp only [own_pk, hc2, hc5, not_true_eq_false, not_false_eq_true, and_true, true_and, and_false, false_and, if_true, if_false]), N0, e0⟩
set_option maxRecDepth 65536 in
set_option maxHeartbeats 40000000 in
theorem rm2_0 (l : Launch) (Z : State) (a0 : Array Value) (hw : ∀ d ∈ tables_1, d.before a0 Z = true) (ws : List Jvm.Cond) (b : Addr) (p1 : Int32) (q : Int64) (kb : ClassId) (vs : List Value) (h0 : Heap) (n0 : Nat) (Z0 : n0 ≤ h0.size) (A : Arv Z h0 b kb .byte (12 : Int32) vs (.int (0 : Int32))) (hat : own_Hat vs p1 q) :
    MetFree l (⟨"com/example/ledgerline/ledgerline/format/GrowingBytes", "littleEndian", "([BII)J"⟩ : MethodName) (head1 (Jvm.Cond.code (⟨"com/example/ledgerline/ledgerline/format/GrowingBytes", "littleEndian", "([BII)J"⟩ : MethodName) prog_17_method_11_code 6 (some .long) :: ws) ({ frames := 0, cells := 0, slots := 0, locals := 0 } : Room)) (fun aa UU => aa = #[(.ref b), (.int p1), (.int (0 : Int32))] ∧ Z.Warmed39 UU.vm ∧ UU.heap = h0) (fun _ _ _ _ _ => True) (fun _ UU oo U' => ∃ v L, oo = .returned v ∧ Qr (.long (q &&& (((1 : Int64) <<< ((0 : Int32) &&& 0x3f).toInt64) - (1 : Int64)))) h0 n0 v U'.heap L ∧ FrameEnd UU oo U' L ({ frames := 0, cells := 0, slots := 0, locals := 0 } : Room).cells ({ frames := 0, cells := 0, slots := 0, locals := 0 } : Room).slots) := by
  refine MetFree.of_bodySF (plainFor_of_name pn_1) hisR ?_
  intro p e s m args below meth c s₁ Bd hml0 hP hK
  obtain ⟨rfl, hZ, hh⟩ := hP
  have hx := Bd.exec
  have hby := Bd.bytes
  have hml : c.maxLocals = 6 := hml0
  have hown : s.vm.findClass "com/example/ledgerline/ledgerline/format/GrowingBytes" = some m.cls := findClass_of_methodNamed Bd.named
  have hnm := (name_of_methodNamed Bd.named Bd.method).1
  have X0 : Stand p l e ({ frames := 0, cells := 0, slots := 0, locals := 0 } : Room) s m #[(.ref b), (.int p1), (.int (0 : Int32))] below meth c s₁ [] 0 0 := Stand.of_body Bd
  have e0 : s₁.heap = h0 := by rw [← hh, Bd.state]; rfl
  have N0 := Fr.nil n0
  obtain ⟨A0, hA0⟩ : ∃ A, A = s₁.setTop (entryFrame m #[(.ref b), (.int p1), (.int (0 : Int32))] 6) := ⟨_, rfl⟩
  have G0 : Go p e below A0 (s₁.setTop (mkF m 0 #[.val (.ref b), .val (.int p1), .val (.int (0 : Int32)), .unset, .unset, .unset] [])) := fun tq kq => by rw [hA0]; exact castTop (ef_rm2_0 m b p1 (0 : Int32)) kq
  have G8 : Go p e below A0 (s₁.setTop (mkF m 38 #[.val (.ref b), .val (.int p1), .val (.int (0 : Int32)), .val (.long (0 : Int64)), .second, .val (.int (0 : Int32))] [(.long (0 : Int64))])) := fun tq kq => G0 tq (by
    refine XS.lconst X0.here hx rfl (hb hby d2_0) ?_
    show Steps p.tables e below (s₁.setTop (mkF m 1 #[.val (.ref b), .val (.int p1), .val (.int (0 : Int32)), .unset, .unset, .unset] [(.long (0 : Int64))])) _
    refine XS.lstoreN X0.here hx rfl (hb hby d2_1) rfl (l' := #[.val (.ref b), .val (.int p1), .val (.int (0 : Int32)), .val (.long (0 : Int64)), .second, .unset]) rfl ?_
    show Steps p.tables e below (s₁.setTop (mkF m 2 #[.val (.ref b), .val (.int p1), .val (.int (0 : Int32)), .val (.long (0 : Int64)), .second, .unset] [])) _
    refine XS.iconst X0.here hx rfl (hb hby d2_2) ?_
    show Steps p.tables e below (s₁.setTop (mkF m 3 #[.val (.ref b), .val (.int p1), .val (.int (0 : Int32)), .val (.long (0 : Int64)), .second, .unset] [(.int (0 : Int32))])) _
    refine XS.istore X0.here hx rfl (hb hby d2_3) rfl (l' := #[.val (.ref b), .val (.int p1), .val (.int (0 : Int32)), .val (.long (0 : Int64)), .second, .val (.int (0 : Int32))]) rfl ?_
    show Steps p.tables e below (s₁.setTop (mkF m 5 #[.val (.ref b), .val (.int p1), .val (.int (0 : Int32)), .val (.long (0 : Int64)), .second, .val (.int (0 : Int32))] [])) _
    refine XS.iload X0.here hx rfl (hb hby d2_5) rfl ?_
    show Steps p.tables e below (s₁.setTop (mkF m 7 #[.val (.ref b), .val (.int p1), .val (.int (0 : Int32)), .val (.long (0 : Int64)), .second, .val (.int (0 : Int32))] [(.int (0 : Int32))])) _
    refine XS.iloadN X0.here hx rfl (hb hby d2_7) rfl ?_
    show Steps p.tables e below (s₁.setTop (mkF m 8 #[.val (.ref b), .val (.int p1), .val (.int (0 : Int32)), .val (.long (0 : Int64)), .second, .val (.int (0 : Int32))] [(.int (0 : Int32)), (.int (0 : Int32))])) _
    refine XS.icmpYes X0.here hx rfl (pc0 := 8) (pc' := 37) rfl (hb hby d2_8) rfl (by decide) (by decide) (by decide) ?_
    show Steps p.tables e below (s₁.setTop (mkF m 37 #[.val (.ref b), .val (.int p1), .val (.int (0 : Int32)), .val (.long (0 : Int64)), .second, .val (.int (0 : Int32))] [])) _
    refine XS.lloadN X0.here hx rfl (hb hby d2_37) rfl ?_
    show Steps p.tables e below (s₁.setTop (mkF m 38 #[.val (.ref b), .val (.int p1), .val (.int (0 : Int32)), .val (.long (0 : Int64)), .second, .val (.int (0 : Int32))] [(.long (0 : Int64))])) _
    exact kq)
  obtain ⟨fs, hr, hrun, hended, hW, hsame⟩ := X0.leave (v := some (.long (0 : Int64))) (fun h => by rw [Bd.returns] at h; cases h)
  refine ⟨_, _, (by rw [← hA0]; exact G8 _ (retOut X0 hx (t := .long) Bd.returns rfl (Or.inr (Or.inl ⟨rfl, rfl, _, rfl⟩)) (hb hby d2_38) hr)), hrun, hended, _, _, rfl, ?_, ⟨_, rfl⟩, hW, hsame.mono (by decide) (by decide)⟩
  exact ⟨(by rw [← own_none q]), N0, e0⟩
set_option maxRecDepth 65536 in
set_option maxHeartbeats 40000000 in
theorem rm2_1 (l : Launch) (Z : State) (a0 : Array Value) (hw : ∀ d ∈ tables_1, d.before a0 Z = true) (ws : List Jvm.Cond) (b : Addr) (p1 : Int32) (q : Int64) (kb : ClassId) (vs : List Value) (h0 : Heap) (n0 : Nat) (Z0 : n0 ≤ h0.size) (A : Arv Z h0 b kb .byte (12 : Int32) vs (.int (0 : Int32))) (hat : own_Hat vs p1 q) :
    MetFree l (⟨"com/example/ledgerline/ledgerline/format/GrowingBytes", "littleEndian", "([BII)J"⟩ : MethodName) (head1 (Jvm.Cond.code (⟨"com/example/ledgerline/ledgerline/format/GrowingBytes", "littleEndian", "([BII)J"⟩ : MethodName) prog_17_method_11_code 6 (some .long) :: ws) ({ frames := 0, cells := 0, slots := 0, locals := 0 } : Room)) (fun aa UU => aa = #[(.ref b), (.int p1), (.int (1 : Int32))] ∧ Z.Warmed39 UU.vm ∧ UU.heap = h0) (fun _ _ _ _ _ => True) (fun _ UU oo U' => ∃ v L, oo = .returned v ∧ Qr (.long (q &&& (((1 : Int64) <<< ((8 : Int32) &&& 0x3f).toInt64) - (1 : Int64)))) h0 n0 v U'.heap L ∧ FrameEnd UU oo U' L ({ frames := 0, cells := 0, slots := 0, locals := 0 } : Room).cells ({ frames := 0, cells := 0, slots := 0, locals := 0 } : Room).slots) := by
  refine MetFree.of_bodySF (plainFor_of_name pn_1) hisR ?_
  intro p e s m args below meth c s₁ Bd hml0 hP hK
  obtain ⟨rfl, hZ, hh⟩ := hP
  have hx := Bd.exec
  have hby := Bd.bytes
  have hml : c.maxLocals = 6 := hml0
  have hown : s.vm.findClass "com/example/ledgerline/ledgerline/format/GrowingBytes" = some m.cls := findClass_of_methodNamed Bd.named
  have hnm := (name_of_methodNamed Bd.named Bd.method).1
  have X0 : Stand p l e ({ frames := 0, cells := 0, slots := 0, locals := 0 } : Room) s m #[(.ref b), (.int p1), (.int (1 : Int32))] below meth c s₁ [] 0 0 := Stand.of_body Bd
  have e0 : s₁.heap = h0 := by rw [← hh, Bd.state]; rfl
  have N0 := Fr.nil n0
  obtain ⟨A0, hA0⟩ : ∃ A, A = s₁.setTop (entryFrame m #[(.ref b), (.int p1), (.int (1 : Int32))] 6) := ⟨_, rfl⟩
  have G0 : Go p e below A0 (s₁.setTop (mkF m 0 #[.val (.ref b), .val (.int p1), .val (.int (1 : Int32)), .unset, .unset, .unset] [])) := fun tq kq => by rw [hA0]; exact castTop (ef_rm2_1 m b p1 (1 : Int32)) kq
  have G9 : Go p e below A0 (s₁.setTop (mkF m 17 #[.val (.ref b), .val (.int p1), .val (.int (1 : Int32)), .val (.long (0 : Int64)), .second, .val (.int (0 : Int32))] [(.int (p1 + (0 : Int32))), (.ref b), (.long (0 : Int64))])) := fun tq kq => G0 tq (by
    refine XS.lconst X0.here hx rfl (hb hby d2_0) ?_
    show Steps p.tables e below (s₁.setTop (mkF m 1 #[.val (.ref b), .val (.int p1), .val (.int (1 : Int32)), .unset, .unset, .unset] [(.long (0 : Int64))])) _
    refine XS.lstoreN X0.here hx rfl (hb hby d2_1) rfl (l' := #[.val (.ref b), .val (.int p1), .val (.int (1 : Int32)), .val (.long (0 : Int64)), .second, .unset]) rfl ?_
    show Steps p.tables e below (s₁.setTop (mkF m 2 #[.val (.ref b), .val (.int p1), .val (.int (1 : Int32)), .val (.long (0 : Int64)), .second, .unset] [])) _
    refine XS.iconst X0.here hx rfl (hb hby d2_2) ?_
    show Steps p.tables e below (s₁.setTop (mkF m 3 #[.val (.ref b), .val (.int p1), .val (.int (1 : Int32)), .val (.long (0 : Int64)), .second, .unset] [(.int (0 : Int32))])) _
    refine XS.istore X0.here hx rfl (hb hby d2_3) rfl (l' := #[.val (.ref b), .val (.int p1), .val (.int (1 : Int32)), .val (.long (0 : Int64)), .second, .val (.int (0 : Int32))]) rfl ?_
    show Steps p.tables e below (s₁.setTop (mkF m 5 #[.val (.ref b), .val (.int p1), .val (.int (1 : Int32)), .val (.long (0 : Int64)), .second, .val (.int (0 : Int32))] [])) _
    refine XS.iload X0.here hx rfl (hb hby d2_5) rfl ?_
    show Steps p.tables e below (s₁.setTop (mkF m 7 #[.val (.ref b), .val (.int p1), .val (.int (1 : Int32)), .val (.long (0 : Int64)), .second, .val (.int (0 : Int32))] [(.int (0 : Int32))])) _
    refine XS.iloadN X0.here hx rfl (hb hby d2_7) rfl ?_
    show Steps p.tables e below (s₁.setTop (mkF m 8 #[.val (.ref b), .val (.int p1), .val (.int (1 : Int32)), .val (.long (0 : Int64)), .second, .val (.int (0 : Int32))] [(.int (1 : Int32)), (.int (0 : Int32))])) _
    refine XS.icmpNo X0.here hx rfl (hb hby d2_8) rfl (by decide) ?_
    show Steps p.tables e below (s₁.setTop (mkF m 11 #[.val (.ref b), .val (.int p1), .val (.int (1 : Int32)), .val (.long (0 : Int64)), .second, .val (.int (0 : Int32))] [])) _
    refine XS.lloadN X0.here hx rfl (hb hby d2_11) rfl ?_
    show Steps p.tables e below (s₁.setTop (mkF m 12 #[.val (.ref b), .val (.int p1), .val (.int (1 : Int32)), .val (.long (0 : Int64)), .second, .val (.int (0 : Int32))] [(.long (0 : Int64))])) _
    refine XS.aloadN X0.here hx rfl (hb hby d2_12) rfl rfl ?_
    show Steps p.tables e below (s₁.setTop (mkF m 13 #[.val (.ref b), .val (.int p1), .val (.int (1 : Int32)), .val (.long (0 : Int64)), .second, .val (.int (0 : Int32))] [(.ref b), (.long (0 : Int64))])) _
    refine XS.iloadN X0.here hx rfl (hb hby d2_13) rfl ?_
    show Steps p.tables e below (s₁.setTop (mkF m 14 #[.val (.ref b), .val (.int p1), .val (.int (1 : Int32)), .val (.long (0 : Int64)), .second, .val (.int (0 : Int32))] [(.int p1), (.ref b), (.long (0 : Int64))])) _
    refine XS.iload X0.here hx rfl (hb hby d2_14) rfl ?_
    show Steps p.tables e below (s₁.setTop (mkF m 16 #[.val (.ref b), .val (.int p1), .val (.int (1 : Int32)), .val (.long (0 : Int64)), .second, .val (.int (0 : Int32))] [(.int (0 : Int32)), (.int p1), (.ref b), (.long (0 : Int64))])) _
    refine XS.iadd X0.here hx rfl (hb hby d2_16) rfl ?_
    show Steps p.tables e below (s₁.setTop (mkF m 17 #[.val (.ref b), .val (.int p1), .val (.int (1 : Int32)), .val (.long (0 : Int64)), .second, .val (.int (0 : Int32))] [(.int (p1 + (0 : Int32))), (.ref b), (.long (0 : Int64))])) _
    exact kq)
  obtain ⟨cl10, Ar10, q10, S10, M10, H10, Gf10⟩ := id A
  have hi11 : ¬ ((p1 + (0 : Int32)) < 0 ∨ cl10.slots.size ≤ ((p1 + (0 : Int32))).toNatClampNeg) := (inb_of S10 (hat (0 : Int32) (Or.inl rfl)).1)
  have G12 : Go p e below A0 (s₁.setTop (mkF m 38 #[.val (.ref b), .val (.int p1), .val (.int (1 : Int32)), .val (.long (q &&& (((1 : Int64) <<< ((8 : Int32) &&& 0x3f).toInt64) - (1 : Int64)))), .second, .val (.int (1 : Int32))] [(.long (q &&& (((1 : Int64) <<< ((8 : Int32) &&& 0x3f).toInt64) - (1 : Int64))))])) := fun tq kq => G9 tq (by
    refine X0.baloadBytes hx (j := (p1 + (0 : Int32))) (v := (.int (own_by q (0 : Int32)))) (by rw [e0]; exact Ar10.1) (State.isArrayOf_alike hZ.alike Ar10.2.1) Ar10.2.2 hi11 (H10.at hi11 (hat (0 : Int32) (Or.inl rfl)).2) (g := (mkF m 17 #[.val (.ref b), .val (.int p1), .val (.int (1 : Int32)), .val (.long (0 : Int64)), .second, .val (.int (0 : Int32))] [(.int (p1 + (0 : Int32))), (.ref b), (.long (0 : Int64))])) rfl rfl (hb hby d2_17) _ ?_
    show Steps p.tables e below (s₁.setTop (mkF m 18 #[.val (.ref b), .val (.int p1), .val (.int (1 : Int32)), .val (.long (0 : Int64)), .second, .val (.int (0 : Int32))] [(.int (own_by q (0 : Int32))), (.long (0 : Int64))])) _
    refine XS.sipush X0.here hx rfl (hb hby d2_18) ?_
    show Steps p.tables e below (s₁.setTop (mkF m 21 #[.val (.ref b), .val (.int p1), .val (.int (1 : Int32)), .val (.long (0 : Int64)), .second, .val (.int (0 : Int32))] [(.int (255 : Int32)), (.int (own_by q (0 : Int32))), (.long (0 : Int64))])) _
    refine XS.iand X0.here hx rfl (hb hby d2_21) rfl ?_
    show Steps p.tables e below (s₁.setTop (mkF m 22 #[.val (.ref b), .val (.int p1), .val (.int (1 : Int32)), .val (.long (0 : Int64)), .second, .val (.int (0 : Int32))] [(.int ((own_by q (0 : Int32)) &&& (255 : Int32))), (.long (0 : Int64))])) _
    refine XS.i2l X0.here hx rfl (hb hby d2_22) rfl ?_
    show Steps p.tables e below (s₁.setTop (mkF m 23 #[.val (.ref b), .val (.int p1), .val (.int (1 : Int32)), .val (.long (0 : Int64)), .second, .val (.int (0 : Int32))] [(.long ((own_by q (0 : Int32)) &&& (255 : Int32)).toInt64), (.long (0 : Int64))])) _
    refine XS.bipush X0.here hx rfl (hb hby d2_23) ?_
    show Steps p.tables e below (s₁.setTop (mkF m 25 #[.val (.ref b), .val (.int p1), .val (.int (1 : Int32)), .val (.long (0 : Int64)), .second, .val (.int (0 : Int32))] [(.int (8 : Int32)), (.long ((own_by q (0 : Int32)) &&& (255 : Int32)).toInt64), (.long (0 : Int64))])) _
    refine XS.iload X0.here hx rfl (hb hby d2_25) rfl ?_
    show Steps p.tables e below (s₁.setTop (mkF m 27 #[.val (.ref b), .val (.int p1), .val (.int (1 : Int32)), .val (.long (0 : Int64)), .second, .val (.int (0 : Int32))] [(.int (0 : Int32)), (.int (8 : Int32)), (.long ((own_by q (0 : Int32)) &&& (255 : Int32)).toInt64), (.long (0 : Int64))])) _
    refine XS.imul X0.here hx rfl (hb hby d2_27) rfl ?_
    show Steps p.tables e below (s₁.setTop (mkF m 28 #[.val (.ref b), .val (.int p1), .val (.int (1 : Int32)), .val (.long (0 : Int64)), .second, .val (.int (0 : Int32))] [(.int ((8 : Int32) * (0 : Int32))), (.long ((own_by q (0 : Int32)) &&& (255 : Int32)).toInt64), (.long (0 : Int64))])) _
    rw [show ((8 : Int32) * (0 : Int32)) = (0 : Int32) from (by decide : ((8 : Int32) * (0 : Int32)) = (0 : Int32))]
    show Steps p.tables e below (s₁.setTop (mkF m 28 #[.val (.ref b), .val (.int p1), .val (.int (1 : Int32)), .val (.long (0 : Int64)), .second, .val (.int (0 : Int32))] [(.int (0 : Int32)), (.long ((own_by q (0 : Int32)) &&& (255 : Int32)).toInt64), (.long (0 : Int64))])) _
    refine XS.lshl X0.here hx rfl (hb hby d2_28) rfl ?_
    show Steps p.tables e below (s₁.setTop (mkF m 29 #[.val (.ref b), .val (.int p1), .val (.int (1 : Int32)), .val (.long (0 : Int64)), .second, .val (.int (0 : Int32))] [(.long (((own_by q (0 : Int32)) &&& (255 : Int32)).toInt64 <<< ((0 : Int32) &&& 0x3f).toInt64)), (.long (0 : Int64))])) _
    refine XS.lor X0.here hx rfl (hb hby d2_29) rfl ?_
    show Steps p.tables e below (s₁.setTop (mkF m 30 #[.val (.ref b), .val (.int p1), .val (.int (1 : Int32)), .val (.long (0 : Int64)), .second, .val (.int (0 : Int32))] [(.long ((0 : Int64) ||| (((own_by q (0 : Int32)) &&& (255 : Int32)).toInt64 <<< ((0 : Int32) &&& 0x3f).toInt64)))])) _
    rw [show ((0 : Int64) ||| (((own_by q (0 : Int32)) &&& (255 : Int32)).toInt64 <<< ((0 : Int32) &&& 0x3f).toInt64)) = (q &&& (((1 : Int64) <<< ((8 : Int32) &&& 0x3f).toInt64) - (1 : Int64))) from own_step_0 q]
    show Steps p.tables e below (s₁.setTop (mkF m 30 #[.val (.ref b), .val (.int p1), .val (.int (1 : Int32)), .val (.long (0 : Int64)), .second, .val (.int (0 : Int32))] [(.long (q &&& (((1 : Int64) <<< ((8 : Int32) &&& 0x3f).toInt64) - (1 : Int64))))])) _
    refine XS.lstoreN X0.here hx rfl (hb hby d2_30) rfl (l' := #[.val (.ref b), .val (.int p1), .val (.int (1 : Int32)), .val (.long (q &&& (((1 : Int64) <<< ((8 : Int32) &&& 0x3f).toInt64) - (1 : Int64)))), .second, .val (.int (0 : Int32))]) rfl ?_
    show Steps p.tables e below (s₁.setTop (mkF m 31 #[.val (.ref b), .val (.int p1), .val (.int (1 : Int32)), .val (.long (q &&& (((1 : Int64) <<< ((8 : Int32) &&& 0x3f).toInt64) - (1 : Int64)))), .second, .val (.int (0 : Int32))] [])) _
    refine XS.iinc X0.here hx rfl (hb hby d2_31) rfl (l' := #[.val (.ref b), .val (.int p1), .val (.int (1 : Int32)), .val (.long (q &&& (((1 : Int64) <<< ((8 : Int32) &&& 0x3f).toInt64) - (1 : Int64)))), .second, .val (.int ((0 : Int32) + (1 : Int32)))]) rfl ?_
    show Steps p.tables e below (s₁.setTop (mkF m 34 #[.val (.ref b), .val (.int p1), .val (.int (1 : Int32)), .val (.long (q &&& (((1 : Int64) <<< ((8 : Int32) &&& 0x3f).toInt64) - (1 : Int64)))), .second, .val (.int ((0 : Int32) + (1 : Int32)))] [])) _
    rw [show ((0 : Int32) + (1 : Int32)) = (1 : Int32) from (by decide : ((0 : Int32) + (1 : Int32)) = (1 : Int32))]
    show Steps p.tables e below (s₁.setTop (mkF m 34 #[.val (.ref b), .val (.int p1), .val (.int (1 : Int32)), .val (.long (q &&& (((1 : Int64) <<< ((8 : Int32) &&& 0x3f).toInt64) - (1 : Int64)))), .second, .val (.int (1 : Int32))] [])) _
    refine XS.goto X0.here hx rfl (pc0 := 34) (pc' := 5) rfl (hb hby d2_34) (by decide) (by decide) ?_
    show Steps p.tables e below (s₁.setTop (mkF m 5 #[.val (.ref b), .val (.int p1), .val (.int (1 : Int32)), .val (.long (q &&& (((1 : Int64) <<< ((8 : Int32) &&& 0x3f).toInt64) - (1 : Int64)))), .second, .val (.int (1 : Int32))] [])) _
    refine XS.iload X0.here hx rfl (hb hby d2_5) rfl ?_
    show Steps p.tables e below (s₁.setTop (mkF m 7 #[.val (.ref b), .val (.int p1), .val (.int (1 : Int32)), .val (.long (q &&& (((1 : Int64) <<< ((8 : Int32) &&& 0x3f).toInt64) - (1 : Int64)))), .second, .val (.int (1 : Int32))] [(.int (1 : Int32))])) _
    refine XS.iloadN X0.here hx rfl (hb hby d2_7) rfl ?_
    show Steps p.tables e below (s₁.setTop (mkF m 8 #[.val (.ref b), .val (.int p1), .val (.int (1 : Int32)), .val (.long (q &&& (((1 : Int64) <<< ((8 : Int32) &&& 0x3f).toInt64) - (1 : Int64)))), .second, .val (.int (1 : Int32))] [(.int (1 : Int32)), (.int (1 : Int32))])) _
    refine XS.icmpYes X0.here hx rfl (pc0 := 8) (pc' := 37) rfl (hb hby d2_8) rfl (by decide) (by decide) (by decide) ?_
    show Steps p.tables e below (s₁.setTop (mkF m 37 #[.val (.ref b), .val (.int p1), .val (.int (1 : Int32)), .val (.long (q &&& (((1 : Int64) <<< ((8 : Int32) &&& 0x3f).toInt64) - (1 : Int64)))), .second, .val (.int (1 : Int32))] [])) _
    refine XS.lloadN X0.here hx rfl (hb hby d2_37) rfl ?_
    show Steps p.tables e below (s₁.setTop (mkF m 38 #[.val (.ref b), .val (.int p1), .val (.int (1 : Int32)), .val (.long (q &&& (((1 : Int64) <<< ((8 : Int32) &&& 0x3f).toInt64) - (1 : Int64)))), .second, .val (.int (1 : Int32))] [(.long (q &&& (((1 : Int64) <<< ((8 : Int32) &&& 0x3f).toInt64) - (1 : Int64))))])) _
    exact kq)
  obtain ⟨fs, hr, hrun, hended, hW, hsame⟩ := X0.leave (v := some (.long (q &&& (((1 : Int64) <<< ((8 : Int32) &&& 0x3f).toInt64) - (1 : Int64))))) (fun h => by rw [Bd.returns] at h; cases h)
  refine ⟨_, _, (by rw [← hA0]; exact G12 _ (retOut X0 hx (t := .long) Bd.returns rfl (Or.inr (Or.inl ⟨rfl, rfl, _, rfl⟩)) (hb hby d2_38) hr)), hrun, hended, _, _, rfl, ?_, ⟨_, rfl⟩, hW, hsame.mono (by decide) (by decide)⟩
  exact ⟨rfl, N0, e0⟩
set_option maxRecDepth 65536 in
set_option maxHeartbeats 40000000 in
theorem rm2_2 (l : Launch) (Z : State) (a0 : Array Value) (hw : ∀ d ∈ tables_1, d.before a0 Z = true) (ws : List Jvm.Cond) (b : Addr) (p1 : Int32) (q : Int64) (kb : ClassId) (vs : List Value) (h0 : Heap) (n0 : Nat) (Z0 : n0 ≤ h0.size) (A : Arv Z h0 b kb .byte (12 : Int32) vs (.int (0 : Int32))) (hat : own_Hat vs p1 q) :
    MetFree l (⟨"com/example/ledgerline/ledgerline/format/GrowingBytes", "littleEndian", "([BII)J"⟩ : MethodName) (head1 (Jvm.Cond.code (⟨"com/example/ledgerline/ledgerline/format/GrowingBytes", "littleEndian", "([BII)J"⟩ : MethodName) prog_17_method_11_code 6 (some .long) :: ws) ({ frames := 0, cells := 0, slots := 0, locals := 0 } : Room)) (fun aa UU => aa = #[(.ref b), (.int p1), (.int (2 : Int32))] ∧ Z.Warmed39 UU.vm ∧ UU.heap = h0) (fun _ _ _ _ _ => True) (fun _ UU oo U' => ∃ v L, oo = .returned v ∧ Qr (.long (q &&& (((1 : Int64) <<< ((16 : Int32) &&& 0x3f).toInt64) - (1 : Int64)))) h0 n0 v U'.heap L ∧ FrameEnd UU oo U' L ({ frames := 0, cells := 0, slots := 0, locals := 0 } : Room).cells ({ frames := 0, cells := 0, slots := 0, locals := 0 } : Room).slots) := by
  refine MetFree.of_bodySF (plainFor_of_name pn_1) hisR ?_
  intro p e s m args below meth c s₁ Bd hml0 hP hK
  obtain ⟨rfl, hZ, hh⟩ := hP
  have hx := Bd.exec
  have hby := Bd.bytes
  have hml : c.maxLocals = 6 := hml0
  have hown : s.vm.findClass "com/example/ledgerline/ledgerline/format/GrowingBytes" = some m.cls := findClass_of_methodNamed Bd.named
  have hnm := (name_of_methodNamed Bd.named Bd.method).1
  have X0 : Stand p l e ({ frames := 0, cells := 0, slots := 0, locals := 0 } : Room) s m #[(.ref b), (.int p1), (.int (2 : Int32))] below meth c s₁ [] 0 0 := Stand.of_body Bd
  have e0 : s₁.heap = h0 := by rw [← hh, Bd.state]; rfl
  have N0 := Fr.nil n0
  obtain ⟨A0, hA0⟩ : ∃ A, A = s₁.setTop (entryFrame m #[(.ref b), (.int p1), (.int (2 : Int32))] 6) := ⟨_, rfl⟩
  have G0 : Go p e below A0 (s₁.setTop (mkF m 0 #[.val (.ref b), .val (.int p1), .val (.int (2 : Int32)), .unset, .unset, .unset] [])) := fun tq kq => by rw [hA0]; exact castTop (ef_rm2_2 m b p1 (2 : Int32)) kq
  have G13 : Go p e below A0 (s₁.setTop (mkF m 17 #[.val (.ref b), .val (.int p1), .val (.int (2 : Int32)), .val (.long (0 : Int64)), .second, .val (.int (0 : Int32))] [(.int (p1 + (0 : Int32))), (.ref b), (.long (0 : Int64))])) := fun tq kq => G0 tq (by
    refine XS.lconst X0.here hx rfl (hb hby d2_0) ?_
    show Steps p.tables e below (s₁.setTop (mkF m 1 #[.val (.ref b), .val (.int p1), .val (.int (2 : Int32)), .unset, .unset, .unset] [(.long (0 : Int64))])) _
    refine XS.lstoreN X0.here hx rfl (hb hby d2_1) rfl (l' := #[.val (.ref b), .val (.int p1), .val (.int (2 : Int32)), .val (.long (0 : Int64)), .second, .unset]) rfl ?_
    show Steps p.tables e below (s₁.setTop (mkF m 2 #[.val (.ref b), .val (.int p1), .val (.int (2 : Int32)), .val (.long (0 : Int64)), .second, .unset] [])) _
    refine XS.iconst X0.here hx rfl (hb hby d2_2) ?_
    show Steps p.tables e below (s₁.setTop (mkF m 3 #[.val (.ref b), .val (.int p1), .val (.int (2 : Int32)), .val (.long (0 : Int64)), .second, .unset] [(.int (0 : Int32))])) _
    refine XS.istore X0.here hx rfl (hb hby d2_3) rfl (l' := #[.val (.ref b), .val (.int p1), .val (.int (2 : Int32)), .val (.long (0 : Int64)), .second, .val (.int (0 : Int32))]) rfl ?_
    show Steps p.tables e below (s₁.setTop (mkF m 5 #[.val (.ref b), .val (.int p1), .val (.int (2 : Int32)), .val (.long (0 : Int64)), .second, .val (.int (0 : Int32))] [])) _
    refine XS.iload X0.here hx rfl (hb hby d2_5) rfl ?_
    show Steps p.tables e below (s₁.setTop (mkF m 7 #[.val (.ref b), .val (.int p1), .val (.int (2 : Int32)), .val (.long (0 : Int64)), .second, .val (.int (0 : Int32))] [(.int (0 : Int32))])) _
    refine XS.iloadN X0.here hx rfl (hb hby d2_7) rfl ?_
    show Steps p.tables e below (s₁.setTop (mkF m 8 #[.val (.ref b), .val (.int p1), .val (.int (2 : Int32)), .val (.long (0 : Int64)), .second, .val (.int (0 : Int32))] [(.int (2 : Int32)), (.int (0 : Int32))])) _
    refine XS.icmpNo X0.here hx rfl (hb hby d2_8) rfl (by decide) ?_
    show Steps p.tables e below (s₁.setTop (mkF m 11 #[.val (.ref b), .val (.int p1), .val (.int (2 : Int32)), .val (.long (0 : Int64)), .second, .val (.int (0 : Int32))] [])) _
    refine XS.lloadN X0.here hx rfl (hb hby d2_11) rfl ?_
    show Steps p.tables e below (s₁.setTop (mkF m 12 #[.val (.ref b), .val (.int p1), .val (.int (2 : Int32)), .val (.long (0 : Int64)), .second, .val (.int (0 : Int32))] [(.long (0 : Int64))])) _
    refine XS.aloadN X0.here hx rfl (hb hby d2_12) rfl rfl ?_
    show Steps p.tables e below (s₁.setTop (mkF m 13 #[.val (.ref b), .val (.int p1), .val (.int (2 : Int32)), .val (.long (0 : Int64)), .second, .val (.int (0 : Int32))] [(.ref b), (.long (0 : Int64))])) _
    refine XS.iloadN X0.here hx rfl (hb hby d2_13) rfl ?_
    show Steps p.tables e below (s₁.setTop (mkF m 14 #[.val (.ref b), .val (.int p1), .val (.int (2 : Int32)), .val (.long (0 : Int64)), .second, .val (.int (0 : Int32))] [(.int p1), (.ref b), (.long (0 : Int64))])) _
    refine XS.iload X0.here hx rfl (hb hby d2_14) rfl ?_
    show Steps p.tables e below (s₁.setTop (mkF m 16 #[.val (.ref b), .val (.int p1), .val (.int (2 : Int32)), .val (.long (0 : Int64)), .second, .val (.int (0 : Int32))] [(.int (0 : Int32)), (.int p1), (.ref b), (.long (0 : Int64))])) _
    refine XS.iadd X0.here hx rfl (hb hby d2_16) rfl ?_
    show Steps p.tables e below (s₁.setTop (mkF m 17 #[.val (.ref b), .val (.int p1), .val (.int (2 : Int32)), .val (.long (0 : Int64)), .second, .val (.int (0 : Int32))] [(.int (p1 + (0 : Int32))), (.ref b), (.long (0 : Int64))])) _
    exact kq)
  obtain ⟨cl14, Ar14, q14, S14, M14, H14, Gf14⟩ := id A
  have hi15 : ¬ ((p1 + (0 : Int32)) < 0 ∨ cl14.slots.size ≤ ((p1 + (0 : Int32))).toNatClampNeg) := (inb_of S14 (hat (0 : Int32) (Or.inl rfl)).1)
  have G16 : Go p e below A0 (s₁.setTop (mkF m 17 #[.val (.ref b), .val (.int p1), .val (.int (2 : Int32)), .val (.long (q &&& (((1 : Int64) <<< ((8 : Int32) &&& 0x3f).toInt64) - (1 : Int64)))), .second, .val (.int (1 : Int32))] [(.int (p1 + (1 : Int32))), (.ref b), (.long (q &&& (((1 : Int64) <<< ((8 : Int32) &&& 0x3f).toInt64) - (1 : Int64))))])) := fun tq kq => G13 tq (by
    refine X0.baloadBytes hx (j := (p1 + (0 : Int32))) (v := (.int (own_by q (0 : Int32)))) (by rw [e0]; exact Ar14.1) (State.isArrayOf_alike hZ.alike Ar14.2.1) Ar14.2.2 hi15 (H14.at hi15 (hat (0 : Int32) (Or.inl rfl)).2) (g := (mkF m 17 #[.val (.ref b), .val (.int p1), .val (.int (2 : Int32)), .val (.long (0 : Int64)), .second, .val (.int (0 : Int32))] [(.int (p1 + (0 : Int32))), (.ref b), (.long (0 : Int64))])) rfl rfl (hb hby d2_17) _ ?_
    show Steps p.tables e below (s₁.setTop (mkF m 18 #[.val (.ref b), .val (.int p1), .val (.int (2 : Int32)), .val (.long (0 : Int64)), .second, .val (.int (0 : Int32))] [(.int (own_by q (0 : Int32))), (.long (0 : Int64))])) _
    refine XS.sipush X0.here hx rfl (hb hby d2_18) ?_
    show Steps p.tables e below (s₁.setTop (mkF m 21 #[.val (.ref b), .val (.int p1), .val (.int (2 : Int32)), .val (.long (0 : Int64)), .second, .val (.int (0 : Int32))] [(.int (255 : Int32)), (.int (own_by q (0 : Int32))), (.long (0 : Int64))])) _
    refine XS.iand X0.here hx rfl (hb hby d2_21) rfl ?_
    show Steps p.tables e below (s₁.setTop (mkF m 22 #[.val (.ref b), .val (.int p1), .val (.int (2 : Int32)), .val (.long (0 : Int64)), .second, .val (.int (0 : Int32))] [(.int ((own_by q (0 : Int32)) &&& (255 : Int32))), (.long (0 : Int64))])) _
    refine XS.i2l X0.here hx rfl (hb hby d2_22) rfl ?_
    show Steps p.tables e below (s₁.setTop (mkF m 23 #[.val (.ref b), .val (.int p1), .val (.int (2 : Int32)), .val (.long (0 : Int64)), .second, .val (.int (0 : Int32))] [(.long ((own_by q (0 : Int32)) &&& (255 : Int32)).toInt64), (.long (0 : Int64))])) _
    refine XS.bipush X0.here hx rfl (hb hby d2_23) ?_
    show Steps p.tables e below (s₁.setTop (mkF m 25 #[.val (.ref b), .val (.int p1), .val (.int (2 : Int32)), .val (.long (0 : Int64)), .second, .val (.int (0 : Int32))] [(.int (8 : Int32)), (.long ((own_by q (0 : Int32)) &&& (255 : Int32)).toInt64), (.long (0 : Int64))])) _
    refine XS.iload X0.here hx rfl (hb hby d2_25) rfl ?_
    show Steps p.tables e below (s₁.setTop (mkF m 27 #[.val (.ref b), .val (.int p1), .val (.int (2 : Int32)), .val (.long (0 : Int64)), .second, .val (.int (0 : Int32))] [(.int (0 : Int32)), (.int (8 : Int32)), (.long ((own_by q (0 : Int32)) &&& (255 : Int32)).toInt64), (.long (0 : Int64))])) _
    refine XS.imul X0.here hx rfl (hb hby d2_27) rfl ?_
    show Steps p.tables e below (s₁.setTop (mkF m 28 #[.val (.ref b), .val (.int p1), .val (.int (2 : Int32)), .val (.long (0 : Int64)), .second, .val (.int (0 : Int32))] [(.int ((8 : Int32) * (0 : Int32))), (.long ((own_by q (0 : Int32)) &&& (255 : Int32)).toInt64), (.long (0 : Int64))])) _
    rw [show ((8 : Int32) * (0 : Int32)) = (0 : Int32) from (by decide : ((8 : Int32) * (0 : Int32)) = (0 : Int32))]
    show Steps p.tables e below (s₁.setTop (mkF m 28 #[.val (.ref b), .val (.int p1), .val (.int (2 : Int32)), .val (.long (0 : Int64)), .second, .val (.int (0 : Int32))] [(.int (0 : Int32)), (.long ((own_by q (0 : Int32)) &&& (255 : Int32)).toInt64), (.long (0 : Int64))])) _
    refine XS.lshl X0.here hx rfl (hb hby d2_28) rfl ?_
    show Steps p.tables e below (s₁.setTop (mkF m 29 #[.val (.ref b), .val (.int p1), .val (.int (2 : Int32)), .val (.long (0 : Int64)), .second, .val (.int (0 : Int32))] [(.long (((own_by q (0 : Int32)) &&& (255 : Int32)).toInt64 <<< ((0 : Int32) &&& 0x3f).toInt64)), (.long (0 : Int64))])) _
    refine XS.lor X0.here hx rfl (hb hby d2_29) rfl ?_
    show Steps p.tables e below (s₁.setTop (mkF m 30 #[.val (.ref b), .val (.int p1), .val (.int (2 : Int32)), .val (.long (0 : Int64)), .second, .val (.int (0 : Int32))] [(.long ((0 : Int64) ||| (((own_by q (0 : Int32)) &&& (255 : Int32)).toInt64 <<< ((0 : Int32) &&& 0x3f).toInt64)))])) _
    rw [show ((0 : Int64) ||| (((own_by q (0 : Int32)) &&& (255 : Int32)).toInt64 <<< ((0 : Int32) &&& 0x3f).toInt64)) = (q &&& (((1 : Int64) <<< ((8 : Int32) &&& 0x3f).toInt64) - (1 : Int64))) from own_step_0 q]
    show Steps p.tables e below (s₁.setTop (mkF m 30 #[.val (.ref b), .val (.int p1), .val (.int (2 : Int32)), .val (.long (0 : Int64)), .second, .val (.int (0 : Int32))] [(.long (q &&& (((1 : Int64) <<< ((8 : Int32) &&& 0x3f).toInt64) - (1 : Int64))))])) _
    refine XS.lstoreN X0.here hx rfl (hb hby d2_30) rfl (l' := #[.val (.ref b), .val (.int p1), .val (.int (2 : Int32)), .val (.long (q &&& (((1 : Int64) <<< ((8 : Int32) &&& 0x3f).toInt64) - (1 : Int64)))), .second, .val (.int (0 : Int32))]) rfl ?_
    show Steps p.tables e below (s₁.setTop (mkF m 31 #[.val (.ref b), .val (.int p1), .val (.int (2 : Int32)), .val (.long (q &&& (((1 : Int64) <<< ((8 : Int32) &&& 0x3f).toInt64) - (1 : Int64)))), .second, .val (.int (0 : Int32))] [])) _
    refine XS.iinc X0.here hx rfl (hb hby d2_31) rfl (l' := #[.val (.ref b), .val (.int p1), .val (.int (2 : Int32)), .val (.long (q &&& (((1 : Int64) <<< ((8 : Int32) &&& 0x3f).toInt64) - (1 : Int64)))), .second, .val (.int ((0 : Int32) + (1 : Int32)))]) rfl ?_
    show Steps p.tables e below (s₁.setTop (mkF m 34 #[.val (.ref b), .val (.int p1), .val (.int (2 : Int32)), .val (.long (q &&& (((1 : Int64) <<< ((8 : Int32) &&& 0x3f).toInt64) - (1 : Int64)))), .second, .val (.int ((0 : Int32) + (1 : Int32)))] [])) _
    rw [show ((0 : Int32) + (1 : Int32)) = (1 : Int32) from (by decide : ((0 : Int32) + (1 : Int32)) = (1 : Int32))]
    show Steps p.tables e below (s₁.setTop (mkF m 34 #[.val (.ref b), .val (.int p1), .val (.int (2 : Int32)), .val (.long (q &&& (((1 : Int64) <<< ((8 : Int32) &&& 0x3f).toInt64) - (1 : Int64)))), .second, .val (.int (1 : Int32))] [])) _
    refine XS.goto X0.here hx rfl (pc0 := 34) (pc' := 5) rfl (hb hby d2_34) (by decide) (by decide) ?_
    show Steps p.tables e below (s₁.setTop (mkF m 5 #[.val (.ref b), .val (.int p1), .val (.int (2 : Int32)), .val (.long (q &&& (((1 : Int64) <<< ((8 : Int32) &&& 0x3f).toInt64) - (1 : Int64)))), .second, .val (.int (1 : Int32))] [])) _
    refine XS.iload X0.here hx rfl (hb hby d2_5) rfl ?_
    show Steps p.tables e below (s₁.setTop (mkF m 7 #[.val (.ref b), .val (.int p1), .val (.int (2 : Int32)), .val (.long (q &&& (((1 : Int64) <<< ((8 : Int32) &&& 0x3f).toInt64) - (1 : Int64)))), .second, .val (.int (1 : Int32))] [(.int (1 : Int32))])) _
    refine XS.iloadN X0.here hx rfl (hb hby d2_7) rfl ?_
    show Steps p.tables e below (s₁.setTop (mkF m 8 #[.val (.ref b), .val (.int p1), .val (.int (2 : Int32)), .val (.long (q &&& (((1 : Int64) <<< ((8 : Int32) &&& 0x3f).toInt64) - (1 : Int64)))), .second, .val (.int (1 : Int32))] [(.int (2 : Int32)), (.int (1 : Int32))])) _
    refine XS.icmpNo X0.here hx rfl (hb hby d2_8) rfl (by decide) ?_
    show Steps p.tables e below (s₁.setTop (mkF m 11 #[.val (.ref b), .val (.int p1), .val (.int (2 : Int32)), .val (.long (q &&& (((1 : Int64) <<< ((8 : Int32) &&& 0x3f).toInt64) - (1 : Int64)))), .second, .val (.int (1 : Int32))] [])) _
    refine XS.lloadN X0.here hx rfl (hb hby d2_11) rfl ?_
    show Steps p.tables e below (s₁.setTop (mkF m 12 #[.val (.ref b), .val (.int p1), .val (.int (2 : Int32)), .val (.long (q &&& (((1 : Int64) <<< ((8 : Int32) &&& 0x3f).toInt64) - (1 : Int64)))), .second, .val (.int (1 : Int32))] [(.long (q &&& (((1 : Int64) <<< ((8 : Int32) &&& 0x3f).toInt64) - (1 : Int64))))])) _
    refine XS.aloadN X0.here hx rfl (hb hby d2_12) rfl rfl ?_
    show Steps p.tables e below (s₁.setTop (mkF m 13 #[.val (.ref b), .val (.int p1), .val (.int (2 : Int32)), .val (.long (q &&& (((1 : Int64) <<< ((8 : Int32) &&& 0x3f).toInt64) - (1 : Int64)))), .second, .val (.int (1 : Int32))] [(.ref b), (.long (q &&& (((1 : Int64) <<< ((8 : Int32) &&& 0x3f).toInt64) - (1 : Int64))))])) _
    refine XS.iloadN X0.here hx rfl (hb hby d2_13) rfl ?_
    show Steps p.tables e below (s₁.setTop (mkF m 14 #[.val (.ref b), .val (.int p1), .val (.int (2 : Int32)), .val (.long (q &&& (((1 : Int64) <<< ((8 : Int32) &&& 0x3f).toInt64) - (1 : Int64)))), .second, .val (.int (1 : Int32))] [(.int p1), (.ref b), (.long (q &&& (((1 : Int64) <<< ((8 : Int32) &&& 0x3f).toInt64) - (1 : Int64))))])) _
    refine XS.iload X0.here hx rfl (hb hby d2_14) rfl ?_
    show Steps p.tables e below (s₁.setTop (mkF m 16 #[.val (.ref b), .val (.int p1), .val (.int (2 : Int32)), .val (.long (q &&& (((1 : Int64) <<< ((8 : Int32) &&& 0x3f).toInt64) - (1 : Int64)))), .second, .val (.int (1 : Int32))] [(.int (1 : Int32)), (.int p1), (.ref b), (.long (q &&& (((1 : Int64) <<< ((8 : Int32) &&& 0x3f).toInt64) - (1 : Int64))))])) _
    refine XS.iadd X0.here hx rfl (hb hby d2_16) rfl ?_
    show Steps p.tables e below (s₁.setTop (mkF m 17 #[.val (.ref b), .val (.int p1), .val (.int (2 : Int32)), .val (.long (q &&& (((1 : Int64) <<< ((8 : Int32) &&& 0x3f).toInt64) - (1 : Int64)))), .second, .val (.int (1 : Int32))] [(.int (p1 + (1 : Int32))), (.ref b), (.long (q &&& (((1 : Int64) <<< ((8 : Int32) &&& 0x3f).toInt64) - (1 : Int64))))])) _
    exact kq)
  obtain ⟨cl17, Ar17, q17, S17, M17, H17, Gf17⟩ := id A
  have hi18 : ¬ ((p1 + (1 : Int32)) < 0 ∨ cl17.slots.size ≤ ((p1 + (1 : Int32))).toNatClampNeg) := (inb_of S17 (hat (1 : Int32) (Or.inr (Or.inl rfl))).1)
  have G19 : Go p e below A0 (s₁.setTop (mkF m 38 #[.val (.ref b), .val (.int p1), .val (.int (2 : Int32)), .val (.long (q &&& (((1 : Int64) <<< ((16 : Int32) &&& 0x3f).toInt64) - (1 : Int64)))), .second, .val (.int (2 : Int32))] [(.long (q &&& (((1 : Int64) <<< ((16 : Int32) &&& 0x3f).toInt64) - (1 : Int64))))])) := fun tq kq => G16 tq (by
    refine X0.baloadBytes hx (j := (p1 + (1 : Int32))) (v := (.int (own_by q (1 : Int32)))) (by rw [e0]; exact Ar17.1) (State.isArrayOf_alike hZ.alike Ar17.2.1) Ar17.2.2 hi18 (H17.at hi18 (hat (1 : Int32) (Or.inr (Or.inl rfl))).2) (g := (mkF m 17 #[.val (.ref b), .val (.int p1), .val (.int (2 : Int32)), .val (.long (q &&& (((1 : Int64) <<< ((8 : Int32) &&& 0x3f).toInt64) - (1 : Int64)))), .second, .val (.int (1 : Int32))] [(.int (p1 + (1 : Int32))), (.ref b), (.long (q &&& (((1 : Int64) <<< ((8 : Int32) &&& 0x3f).toInt64) - (1 : Int64))))])) rfl rfl (hb hby d2_17) _ ?_
    show Steps p.tables e below (s₁.setTop (mkF m 18 #[.val (.ref b), .val (.int p1), .val (.int (2 : Int32)), .val (.long (q &&& (((1 : Int64) <<< ((8 : Int32) &&& 0x3f).toInt64) - (1 : Int64)))), .second, .val (.int (1 : Int32))] [(.int (own_by q (1 : Int32))), (.long (q &&& (((1 : Int64) <<< ((8 : Int32) &&& 0x3f).toInt64) - (1 : Int64))))])) _
    refine XS.sipush X0.here hx rfl (hb hby d2_18) ?_
    show Steps p.tables e below (s₁.setTop (mkF m 21 #[.val (.ref b), .val (.int p1), .val (.int (2 : Int32)), .val (.long (q &&& (((1 : Int64) <<< ((8 : Int32) &&& 0x3f).toInt64) - (1 : Int64)))), .second, .val (.int (1 : Int32))] [(.int (255 : Int32)), (.int (own_by q (1 : Int32))), (.long (q &&& (((1 : Int64) <<< ((8 : Int32) &&& 0x3f).toInt64) - (1 : Int64))))])) _
    refine XS.iand X0.here hx rfl (hb hby d2_21) rfl ?_
    show Steps p.tables e below (s₁.setTop (mkF m 22 #[.val (.ref b), .val (.int p1), .val (.int (2 : Int32)), .val (.long (q &&& (((1 : Int64) <<< ((8 : Int32) &&& 0x3f).toInt64) - (1 : Int64)))), .second, .val (.int (1 : Int32))] [(.int ((own_by q (1 : Int32)) &&& (255 : Int32))), (.long (q &&& (((1 : Int64) <<< ((8 : Int32) &&& 0x3f).toInt64) - (1 : Int64))))])) _
    refine XS.i2l X0.here hx rfl (hb hby d2_22) rfl ?_
    show Steps p.tables e below (s₁.setTop (mkF m 23 #[.val (.ref b), .val (.int p1), .val (.int (2 : Int32)), .val (.long (q &&& (((1 : Int64) <<< ((8 : Int32) &&& 0x3f).toInt64) - (1 : Int64)))), .second, .val (.int (1 : Int32))] [(.long ((own_by q (1 : Int32)) &&& (255 : Int32)).toInt64), (.long (q &&& (((1 : Int64) <<< ((8 : Int32) &&& 0x3f).toInt64) - (1 : Int64))))])) _
    refine XS.bipush X0.here hx rfl (hb hby d2_23) ?_
    show Steps p.tables e below (s₁.setTop (mkF m 25 #[.val (.ref b), .val (.int p1), .val (.int (2 : Int32)), .val (.long (q &&& (((1 : Int64) <<< ((8 : Int32) &&& 0x3f).toInt64) - (1 : Int64)))), .second, .val (.int (1 : Int32))] [(.int (8 : Int32)), (.long ((own_by q (1 : Int32)) &&& (255 : Int32)).toInt64), (.long (q &&& (((1 : Int64) <<< ((8 : Int32) &&& 0x3f).toInt64) - (1 : Int64))))])) _
    refine XS.iload X0.here hx rfl (hb hby d2_25) rfl ?_
    show Steps p.tables e below (s₁.setTop (mkF m 27 #[.val (.ref b), .val (.int p1), .val (.int (2 : Int32)), .val (.long (q &&& (((1 : Int64) <<< ((8 : Int32) &&& 0x3f).toInt64) - (1 : Int64)))), .second, .val (.int (1 : Int32))] [(.int (1 : Int32)), (.int (8 : Int32)), (.long ((own_by q (1 : Int32)) &&& (255 : Int32)).toInt64), (.long (q &&& (((1 : Int64) <<< ((8 : Int32) &&& 0x3f).toInt64) - (1 : Int64))))])) _
    refine XS.imul X0.here hx rfl (hb hby d2_27) rfl ?_
    show Steps p.tables e below (s₁.setTop (mkF m 28 #[.val (.ref b), .val (.int p1), .val (.int (2 : Int32)), .val (.long (q &&& (((1 : Int64) <<< ((8 : Int32) &&& 0x3f).toInt64) - (1 : Int64)))), .second, .val (.int (1 : Int32))] [(.int ((8 : Int32) * (1 : Int32))), (.long ((own_by q (1 : Int32)) &&& (255 : Int32)).toInt64), (.long (q &&& (((1 : Int64) <<< ((8 : Int32) &&& 0x3f).toInt64) - (1 : Int64))))])) _
    rw [show ((8 : Int32) * (1 : Int32)) = (8 : Int32) from (by decide : ((8 : Int32) * (1 : Int32)) = (8 : Int32))]
    show Steps p.tables e below (s₁.setTop (mkF m 28 #[.val (.ref b), .val (.int p1), .val (.int (2 : Int32)), .val (.long (q &&& (((1 : Int64) <<< ((8 : Int32) &&& 0x3f).toInt64) - (1 : Int64)))), .second, .val (.int (1 : Int32))] [(.int (8 : Int32)), (.long ((own_by q (1 : Int32)) &&& (255 : Int32)).toInt64), (.long (q &&& (((1 : Int64) <<< ((8 : Int32) &&& 0x3f).toInt64) - (1 : Int64))))])) _
    refine XS.lshl X0.here hx rfl (hb hby d2_28) rfl ?_
    show Steps p.tables e below (s₁.setTop (mkF m 29 #[.val (.ref b), .val (.int p1), .val (.int (2 : Int32)), .val (.long (q &&& (((1 : Int64) <<< ((8 : Int32) &&& 0x3f).toInt64) - (1 : Int64)))), .second, .val (.int (1 : Int32))] [(.long (((own_by q (1 : Int32)) &&& (255 : Int32)).toInt64 <<< ((8 : Int32) &&& 0x3f).toInt64)), (.long (q &&& (((1 : Int64) <<< ((8 : Int32) &&& 0x3f).toInt64) - (1 : Int64))))])) _
    refine XS.lor X0.here hx rfl (hb hby d2_29) rfl ?_
    show Steps p.tables e below (s₁.setTop (mkF m 30 #[.val (.ref b), .val (.int p1), .val (.int (2 : Int32)), .val (.long (q &&& (((1 : Int64) <<< ((8 : Int32) &&& 0x3f).toInt64) - (1 : Int64)))), .second, .val (.int (1 : Int32))] [(.long ((q &&& (((1 : Int64) <<< ((8 : Int32) &&& 0x3f).toInt64) - (1 : Int64))) ||| (((own_by q (1 : Int32)) &&& (255 : Int32)).toInt64 <<< ((8 : Int32) &&& 0x3f).toInt64)))])) _
    rw [show ((q &&& (((1 : Int64) <<< ((8 : Int32) &&& 0x3f).toInt64) - (1 : Int64))) ||| (((own_by q (1 : Int32)) &&& (255 : Int32)).toInt64 <<< ((8 : Int32) &&& 0x3f).toInt64)) = (q &&& (((1 : Int64) <<< ((16 : Int32) &&& 0x3f).toInt64) - (1 : Int64))) from own_step_1 q]
    show Steps p.tables e below (s₁.setTop (mkF m 30 #[.val (.ref b), .val (.int p1), .val (.int (2 : Int32)), .val (.long (q &&& (((1 : Int64) <<< ((8 : Int32) &&& 0x3f).toInt64) - (1 : Int64)))), .second, .val (.int (1 : Int32))] [(.long (q &&& (((1 : Int64) <<< ((16 : Int32) &&& 0x3f).toInt64) - (1 : Int64))))])) _
    refine XS.lstoreN X0.here hx rfl (hb hby d2_30) rfl (l' := #[.val (.ref b), .val (.int p1), .val (.int (2 : Int32)), .val (.long (q &&& (((1 : Int64) <<< ((16 : Int32) &&& 0x3f).toInt64) - (1 : Int64)))), .second, .val (.int (1 : Int32))]) rfl ?_
    show Steps p.tables e below (s₁.setTop (mkF m 31 #[.val (.ref b), .val (.int p1), .val (.int (2 : Int32)), .val (.long (q &&& (((1 : Int64) <<< ((16 : Int32) &&& 0x3f).toInt64) - (1 : Int64)))), .second, .val (.int (1 : Int32))] [])) _
    refine XS.iinc X0.here hx rfl (hb hby d2_31) rfl (l' := #[.val (.ref b), .val (.int p1), .val (.int (2 : Int32)), .val (.long (q &&& (((1 : Int64) <<< ((16 : Int32) &&& 0x3f).toInt64) - (1 : Int64)))), .second, .val (.int ((1 : Int32) + (1 : Int32)))]) rfl ?_
    show Steps p.tables e below (s₁.setTop (mkF m 34 #[.val (.ref b), .val (.int p1), .val (.int (2 : Int32)), .val (.long (q &&& (((1 : Int64) <<< ((16 : Int32) &&& 0x3f).toInt64) - (1 : Int64)))), .second, .val (.int ((1 : Int32) + (1 : Int32)))] [])) _
    rw [show ((1 : Int32) + (1 : Int32)) = (2 : Int32) from (by decide : ((1 : Int32) + (1 : Int32)) = (2 : Int32))]
    show Steps p.tables e below (s₁.setTop (mkF m 34 #[.val (.ref b), .val (.int p1), .val (.int (2 : Int32)), .val (.long (q &&& (((1 : Int64) <<< ((16 : Int32) &&& 0x3f).toInt64) - (1 : Int64)))), .second, .val (.int (2 : Int32))] [])) _
    refine XS.goto X0.here hx rfl (pc0 := 34) (pc' := 5) rfl (hb hby d2_34) (by decide) (by decide) ?_
    show Steps p.tables e below (s₁.setTop (mkF m 5 #[.val (.ref b), .val (.int p1), .val (.int (2 : Int32)), .val (.long (q &&& (((1 : Int64) <<< ((16 : Int32) &&& 0x3f).toInt64) - (1 : Int64)))), .second, .val (.int (2 : Int32))] [])) _
    refine XS.iload X0.here hx rfl (hb hby d2_5) rfl ?_
    show Steps p.tables e below (s₁.setTop (mkF m 7 #[.val (.ref b), .val (.int p1), .val (.int (2 : Int32)), .val (.long (q &&& (((1 : Int64) <<< ((16 : Int32) &&& 0x3f).toInt64) - (1 : Int64)))), .second, .val (.int (2 : Int32))] [(.int (2 : Int32))])) _
    refine XS.iloadN X0.here hx rfl (hb hby d2_7) rfl ?_
    show Steps p.tables e below (s₁.setTop (mkF m 8 #[.val (.ref b), .val (.int p1), .val (.int (2 : Int32)), .val (.long (q &&& (((1 : Int64) <<< ((16 : Int32) &&& 0x3f).toInt64) - (1 : Int64)))), .second, .val (.int (2 : Int32))] [(.int (2 : Int32)), (.int (2 : Int32))])) _
    refine XS.icmpYes X0.here hx rfl (pc0 := 8) (pc' := 37) rfl (hb hby d2_8) rfl (by decide) (by decide) (by decide) ?_
    show Steps p.tables e below (s₁.setTop (mkF m 37 #[.val (.ref b), .val (.int p1), .val (.int (2 : Int32)), .val (.long (q &&& (((1 : Int64) <<< ((16 : Int32) &&& 0x3f).toInt64) - (1 : Int64)))), .second, .val (.int (2 : Int32))] [])) _
    refine XS.lloadN X0.here hx rfl (hb hby d2_37) rfl ?_
    show Steps p.tables e below (s₁.setTop (mkF m 38 #[.val (.ref b), .val (.int p1), .val (.int (2 : Int32)), .val (.long (q &&& (((1 : Int64) <<< ((16 : Int32) &&& 0x3f).toInt64) - (1 : Int64)))), .second, .val (.int (2 : Int32))] [(.long (q &&& (((1 : Int64) <<< ((16 : Int32) &&& 0x3f).toInt64) - (1 : Int64))))])) _
    exact kq)
  obtain ⟨fs, hr, hrun, hended, hW, hsame⟩ := X0.leave (v := some (.long (q &&& (((1 : Int64) <<< ((16 : Int32) &&& 0x3f).toInt64) - (1 : Int64))))) (fun h => by rw [Bd.returns] at h; cases h)
  refine ⟨_, _, (by rw [← hA0]; exact G19 _ (retOut X0 hx (t := .long) Bd.returns rfl (Or.inr (Or.inl ⟨rfl, rfl, _, rfl⟩)) (hb hby d2_38) hr)), hrun, hended, _, _, rfl, ?_, ⟨_, rfl⟩, hW, hsame.mono (by decide) (by decide)⟩
  exact ⟨rfl, N0, e0⟩
set_option maxRecDepth 65536 in
set_option maxHeartbeats 40000000 in
theorem rm2_3 (l : Launch) (Z : State) (a0 : Array Value) (hw : ∀ d ∈ tables_1, d.before a0 Z = true) (ws : List Jvm.Cond) (b : Addr) (p1 : Int32) (q : Int64) (kb : ClassId) (vs : List Value) (h0 : Heap) (n0 : Nat) (Z0 : n0 ≤ h0.size) (A : Arv Z h0 b kb .byte (12 : Int32) vs (.int (0 : Int32))) (hat : own_Hat vs p1 q) :
    MetFree l (⟨"com/example/ledgerline/ledgerline/format/GrowingBytes", "littleEndian", "([BII)J"⟩ : MethodName) (head1 (Jvm.Cond.code (⟨"com/example/ledgerline/ledgerline/format/GrowingBytes", "littleEndian", "([BII)J"⟩ : MethodName) prog_17_method_11_code 6 (some .long) :: ws) ({ frames := 0, cells := 0, slots := 0, locals := 0 } : Room)) (fun aa UU => aa = #[(.ref b), (.int p1), (.int (3 : Int32))] ∧ Z.Warmed39 UU.vm ∧ UU.heap = h0) (fun _ _ _ _ _ => True) (fun _ UU oo U' => ∃ v L, oo = .returned v ∧ Qr (.long (q &&& (((1 : Int64) <<< ((24 : Int32) &&& 0x3f).toInt64) - (1 : Int64)))) h0 n0 v U'.heap L ∧ FrameEnd UU oo U' L ({ frames := 0, cells := 0, slots := 0, locals := 0 } : Room).cells ({ frames := 0, cells := 0, slots := 0, locals := 0 } : Room).slots) := by
  refine MetFree.of_bodySF (plainFor_of_name pn_1) hisR ?_
  intro p e s m args below meth c s₁ Bd hml0 hP hK
  obtain ⟨rfl, hZ, hh⟩ := hP
  have hx := Bd.exec
  have hby := Bd.bytes
  have hml : c.maxLocals = 6 := hml0
  have hown : s.vm.findClass "com/example/ledgerline/ledgerline/format/GrowingBytes" = some m.cls := findClass_of_methodNamed Bd.named
  have hnm := (name_of_methodNamed Bd.named Bd.method).1
  have X0 : Stand p l e ({ frames := 0, cells := 0, slots := 0, locals := 0 } : Room) s m #[(.ref b), (.int p1), (.int (3 : Int32))] below meth c s₁ [] 0 0 := Stand.of_body Bd
  have e0 : s₁.heap = h0 := by rw [← hh, Bd.state]; rfl
  have N0 := Fr.nil n0
  obtain ⟨A0, hA0⟩ : ∃ A, A = s₁.setTop (entryFrame m #[(.ref b), (.int p1), (.int (3 : Int32))] 6) := ⟨_, rfl⟩
  have G0 : Go p e below A0 (s₁.setTop (mkF m 0 #[.val (.ref b), .val (.int p1), .val (.int (3 : Int32)), .unset, .unset, .unset] [])) := fun tq kq => by rw [hA0]; exact castTop (ef_rm2_3 m b p1 (3 : Int32)) kq
  have G20 : Go p e below A0 (s₁.setTop (mkF m 17 #[.val (.ref b), .val (.int p1), .val (.int (3 : Int32)), .val (.long (0 : Int64)), .second, .val (.int (0 : Int32))] [(.int (p1 + (0 : Int32))), (.ref b), (.long (0 : Int64))])) := fun tq kq => G0 tq (by
    refine XS.lconst X0.here hx rfl (hb hby d2_0) ?_
    show Steps p.tables e below (s₁.setTop (mkF m 1 #[.val (.ref b), .val (.int p1), .val (.int (3 : Int32)), .unset, .unset, .unset] [(.long (0 : Int64))])) _
    refine XS.lstoreN X0.here hx rfl (hb hby d2_1) rfl (l' := #[.val (.ref b), .val (.int p1), .val (.int (3 : Int32)), .val (.long (0 : Int64)), .second, .unset]) rfl ?_
    show Steps p.tables e below (s₁.setTop (mkF m 2 #[.val (.ref b), .val (.int p1), .val (.int (3 : Int32)), .val (.long (0 : Int64)), .second, .unset] [])) _
    refine XS.iconst X0.here hx rfl (hb hby d2_2) ?_
    show Steps p.tables e below (s₁.setTop (mkF m 3 #[.val (.ref b), .val (.int p1), .val (.int (3 : Int32)), .val (.long (0 : Int64)), .second, .unset] [(.int (0 : Int32))])) _
    refine XS.istore X0.here hx rfl (hb hby d2_3) rfl (l' := #[.val (.ref b), .val (.int p1), .val (.int (3 : Int32)), .val (.long (0 : Int64)), .second, .val (.int (0 : Int32))]) rfl ?_
    show Steps p.tables e below (s₁.setTop (mkF m 5 #[.val (.ref b), .val (.int p1), .val (.int (3 : Int32)), .val (.long (0 : Int64)), .second, .val (.int (0 : Int32))] [])) _
    refine XS.iload X0.here hx rfl (hb hby d2_5) rfl ?_
    show Steps p.tables e below (s₁.setTop (mkF m 7 #[.val (.ref b), .val (.int p1), .val (.int (3 : Int32)), .val (.long (0 : Int64)), .second, .val (.int (0 : Int32))] [(.int (0 : Int32))])) _
    refine XS.iloadN X0.here hx rfl (hb hby d2_7) rfl ?_
    show Steps p.tables e below (s₁.setTop (mkF m 8 #[.val (.ref b), .val (.int p1), .val (.int (3 : Int32)), .val (.long (0 : Int64)), .second, .val (.int (0 : Int32))] [(.int (3 : Int32)), (.int (0 : Int32))])) _
    refine XS.icmpNo X0.here hx rfl (hb hby d2_8) rfl (by decide) ?_
    show Steps p.tables e below (s₁.setTop (mkF m 11 #[.val (.ref b), .val (.int p1), .val (.int (3 : Int32)), .val (.long (0 : Int64)), .second, .val (.int (0 : Int32))] [])) _
    refine XS.lloadN X0.here hx rfl (hb hby d2_11) rfl ?_
    show Steps p.tables e below (s₁.setTop (mkF m 12 #[.val (.ref b), .val (.int p1), .val (.int (3 : Int32)), .val (.long (0 : Int64)), .second, .val (.int (0 : Int32))] [(.long (0 : Int64))])) _
    refine XS.aloadN X0.here hx rfl (hb hby d2_12) rfl rfl ?_
    show Steps p.tables e below (s₁.setTop (mkF m 13 #[.val (.ref b), .val (.int p1), .val (.int (3 : Int32)), .val (.long (0 : Int64)), .second, .val (.int (0 : Int32))] [(.ref b), (.long (0 : Int64))])) _
    refine XS.iloadN X0.here hx rfl (hb hby d2_13) rfl ?_
    show Steps p.tables e below (s₁.setTop (mkF m 14 #[.val (.ref b), .val (.int p1), .val (.int (3 : Int32)), .val (.long (0 : Int64)), .second, .val (.int (0 : Int32))] [(.int p1), (.ref b), (.long (0 : Int64))])) _
    refine XS.iload X0.here hx rfl (hb hby d2_14) rfl ?_
    show Steps p.tables e below (s₁.setTop (mkF m 16 #[.val (.ref b), .val (.int p1), .val (.int (3 : Int32)), .val (.long (0 : Int64)), .second, .val (.int (0 : Int32))] [(.int (0 : Int32)), (.int p1), (.ref b), (.long (0 : Int64))])) _
    refine XS.iadd X0.here hx rfl (hb hby d2_16) rfl ?_
    show Steps p.tables e below (s₁.setTop (mkF m 17 #[.val (.ref b), .val (.int p1), .val (.int (3 : Int32)), .val (.long (0 : Int64)), .second, .val (.int (0 : Int32))] [(.int (p1 + (0 : Int32))), (.ref b), (.long (0 : Int64))])) _
    exact kq)
  obtain ⟨cl21, Ar21, q21, S21, M21, H21, Gf21⟩ := id A
  have hi22 : ¬ ((p1 + (0 : Int32)) < 0 ∨ cl21.slots.size ≤ ((p1 + (0 : Int32))).toNatClampNeg) := (inb_of S21 (hat (0 : Int32) (Or.inl rfl)).1)
  have G23 : Go p e below A0 (s₁.setTop (mkF m 17 #[.val (.ref b), .val (.int p1), .val (.int (3 : Int32)), .val (.long (q &&& (((1 : Int64) <<< ((8 : Int32) &&& 0x3f).toInt64) - (1 : Int64)))), .second, .val (.int (1 : Int32))] [(.int (p1 + (1 : Int32))), (.ref b), (.long (q &&& (((1 : Int64) <<< ((8 : Int32) &&& 0x3f).toInt64) - (1 : Int64))))])) := fun tq kq => G20 tq (by
    refine X0.baloadBytes hx (j := (p1 + (0 : Int32))) (v := (.int (own_by q (0 : Int32)))) (by rw [e0]; exact Ar21.1) (State.isArrayOf_alike hZ.alike Ar21.2.1) Ar21.2.2 hi22 (H21.at hi22 (hat (0 : Int32) (Or.inl rfl)).2) (g := (mkF m 17 #[.val (.ref b), .val (.int p1), .val (.int (3 : Int32)), .val (.long (0 : Int64)), .second, .val (.int (0 : Int32))] [(.int (p1 + (0 : Int32))), (.ref b), (.long (0 : Int64))])) rfl rfl (hb hby d2_17) _ ?_
    show Steps p.tables e below (s₁.setTop (mkF m 18 #[.val (.ref b), .val (.int p1), .val (.int (3 : Int32)), .val (.long (0 : Int64)), .second, .val (.int (0 : Int32))] [(.int (own_by q (0 : Int32))), (.long (0 : Int64))])) _
    refine XS.sipush X0.here hx rfl (hb hby d2_18) ?_
    show Steps p.tables e below (s₁.setTop (mkF m 21 #[.val (.ref b), .val (.int p1), .val (.int (3 : Int32)), .val (.long (0 : Int64)), .second, .val (.int (0 : Int32))] [(.int (255 : Int32)), (.int (own_by q (0 : Int32))), (.long (0 : Int64))])) _
    refine XS.iand X0.here hx rfl (hb hby d2_21) rfl ?_
    show Steps p.tables e below (s₁.setTop (mkF m 22 #[.val (.ref b), .val (.int p1), .val (.int (3 : Int32)), .val (.long (0 : Int64)), .second, .val (.int (0 : Int32))] [(.int ((own_by q (0 : Int32)) &&& (255 : Int32))), (.long (0 : Int64))])) _
    refine XS.i2l X0.here hx rfl (hb hby d2_22) rfl ?_
    show Steps p.tables e below (s₁.setTop (mkF m 23 #[.val (.ref b), .val (.int p1), .val (.int (3 : Int32)), .val (.long (0 : Int64)), .second, .val (.int (0 : Int32))] [(.long ((own_by q (0 : Int32)) &&& (255 : Int32)).toInt64), (.long (0 : Int64))])) _
    refine XS.bipush X0.here hx rfl (hb hby d2_23) ?_
    show Steps p.tables e below (s₁.setTop (mkF m 25 #[.val (.ref b), .val (.int p1), .val (.int (3 : Int32)), .val (.long (0 : Int64)), .second, .val (.int (0 : Int32))] [(.int (8 : Int32)), (.long ((own_by q (0 : Int32)) &&& (255 : Int32)).toInt64), (.long (0 : Int64))])) _
    refine XS.iload X0.here hx rfl (hb hby d2_25) rfl ?_
    show Steps p.tables e below (s₁.setTop (mkF m 27 #[.val (.ref b), .val (.int p1), .val (.int (3 : Int32)), .val (.long (0 : Int64)), .second, .val (.int (0 : Int32))] [(.int (0 : Int32)), (.int (8 : Int32)), (.long ((own_by q (0 : Int32)) &&& (255 : Int32)).toInt64), (.long (0 : Int64))])) _
    refine XS.imul X0.here hx rfl (hb hby d2_27) rfl ?_
    show Steps p.tables e below (s₁.setTop (mkF m 28 #[.val (.ref b), .val (.int p1), .val (.int (3 : Int32)), .val (.long (0 : Int64)), .second, .val (.int (0 : Int32))] [(.int ((8 : Int32) * (0 : Int32))), (.long ((own_by q (0 : Int32)) &&& (255 : Int32)).toInt64), (.long (0 : Int64))])) _
    rw [show ((8 : Int32) * (0 : Int32)) = (0 : Int32) from (by decide : ((8 : Int32) * (0 : Int32)) = (0 : Int32))]
    show Steps p.tables e below (s₁.setTop (mkF m 28 #[.val (.ref b), .val (.int p1), .val (.int (3 : Int32)), .val (.long (0 : Int64)), .second, .val (.int (0 : Int32))] [(.int (0 : Int32)), (.long ((own_by q (0 : Int32)) &&& (255 : Int32)).toInt64), (.long (0 : Int64))])) _
    refine XS.lshl X0.here hx rfl (hb hby d2_28) rfl ?_
    show Steps p.tables e below (s₁.setTop (mkF m 29 #[.val (.ref b), .val (.int p1), .val (.int (3 : Int32)), .val (.long (0 : Int64)), .second, .val (.int (0 : Int32))] [(.long (((own_by q (0 : Int32)) &&& (255 : Int32)).toInt64 <<< ((0 : Int32) &&& 0x3f).toInt64)), (.long (0 : Int64))])) _
    refine XS.lor X0.here hx rfl (hb hby d2_29) rfl ?_
    show Steps p.tables e below (s₁.setTop (mkF m 30 #[.val (.ref b), .val (.int p1), .val (.int (3 : Int32)), .val (.long (0 : Int64)), .second, .val (.int (0 : Int32))] [(.long ((0 : Int64) ||| (((own_by q (0 : Int32)) &&& (255 : Int32)).toInt64 <<< ((0 : Int32) &&& 0x3f).toInt64)))])) _
    rw [show ((0 : Int64) ||| (((own_by q (0 : Int32)) &&& (255 : Int32)).toInt64 <<< ((0 : Int32) &&& 0x3f).toInt64)) = (q &&& (((1 : Int64) <<< ((8 : Int32) &&& 0x3f).toInt64) - (1 : Int64))) from own_step_0 q]
    show Steps p.tables e below (s₁.setTop (mkF m 30 #[.val (.ref b), .val (.int p1), .val (.int (3 : Int32)), .val (.long (0 : Int64)), .second, .val (.int (0 : Int32))] [(.long (q &&& (((1 : Int64) <<< ((8 : Int32) &&& 0x3f).toInt64) - (1 : Int64))))])) _
    refine XS.lstoreN X0.here hx rfl (hb hby d2_30) rfl (l' := #[.val (.ref b), .val (.int p1), .val (.int (3 : Int32)), .val (.long (q &&& (((1 : Int64) <<< ((8 : Int32) &&& 0x3f).toInt64) - (1 : Int64)))), .second, .val (.int (0 : Int32))]) rfl ?_
    show Steps p.tables e below (s₁.setTop (mkF m 31 #[.val (.ref b), .val (.int p1), .val (.int (3 : Int32)), .val (.long (q &&& (((1 : Int64) <<< ((8 : Int32) &&& 0x3f).toInt64) - (1 : Int64)))), .second, .val (.int (0 : Int32))] [])) _
    refine XS.iinc X0.here hx rfl (hb hby d2_31) rfl (l' := #[.val (.ref b), .val (.int p1), .val (.int (3 : Int32)), .val (.long (q &&& (((1 : Int64) <<< ((8 : Int32) &&& 0x3f).toInt64) - (1 : Int64)))), .second, .val (.int ((0 : Int32) + (1 : Int32)))]) rfl ?_
    show Steps p.tables e below (s₁.setTop (mkF m 34 #[.val (.ref b), .val (.int p1), .val (.int (3 : Int32)), .val (.long (q &&& (((1 : Int64) <<< ((8 : Int32) &&& 0x3f).toInt64) - (1 : Int64)))), .second, .val (.int ((0 : Int32) + (1 : Int32)))] [])) _
    rw [show ((0 : Int32) + (1 : Int32)) = (1 : Int32) from (by decide : ((0 : Int32) + (1 : Int32)) = (1 : Int32))]
    show Steps p.tables e below (s₁.setTop (mkF m 34 #[.val (.ref b), .val (.int p1), .val (.int (3 : Int32)), .val (.long (q &&& (((1 : Int64) <<< ((8 : Int32) &&& 0x3f).toInt64) - (1 : Int64)))), .second, .val (.int (1 : Int32))] [])) _
    refine XS.goto X0.here hx rfl (pc0 := 34) (pc' := 5) rfl (hb hby d2_34) (by decide) (by decide) ?_
    show Steps p.tables e below (s₁.setTop (mkF m 5 #[.val (.ref b), .val (.int p1), .val (.int (3 : Int32)), .val (.long (q &&& (((1 : Int64) <<< ((8 : Int32) &&& 0x3f).toInt64) - (1 : Int64)))), .second, .val (.int (1 : Int32))] [])) _
    refine XS.iload X0.here hx rfl (hb hby d2_5) rfl ?_
    show Steps p.tables e below (s₁.setTop (mkF m 7 #[.val (.ref b), .val (.int p1), .val (.int (3 : Int32)), .val (.long (q &&& (((1 : Int64) <<< ((8 : Int32) &&& 0x3f).toInt64) - (1 : Int64)))), .second, .val (.int (1 : Int32))] [(.int (1 : Int32))])) _
    refine XS.iloadN X0.here hx rfl (hb hby d2_7) rfl ?_
    show Steps p.tables e below (s₁.setTop (mkF m 8 #[.val (.ref b), .val (.int p1), .val (.int (3 : Int32)), .val (.long (q &&& (((1 : Int64) <<< ((8 : Int32) &&& 0x3f).toInt64) - (1 : Int64)))), .second, .val (.int (1 : Int32))] [(.int (3 : Int32)), (.int (1 : Int32))])) _
    refine XS.icmpNo X0.here hx rfl (hb hby d2_8) rfl (by decide) ?_
    show Steps p.tables e below (s₁.setTop (mkF m 11 #[.val (.ref b), .val (.int p1), .val (.int (3 : Int32)), .val (.long (q &&& (((1 : Int64) <<< ((8 : Int32) &&& 0x3f).toInt64) - (1 : Int64)))), .second, .val (.int (1 : Int32))] [])) _
    refine XS.lloadN X0.here hx rfl (hb hby d2_11) rfl ?_
    show Steps p.tables e below (s₁.setTop (mkF m 12 #[.val (.ref b), .val (.int p1), .val (.int (3 : Int32)), .val (.long (q &&& (((1 : Int64) <<< ((8 : Int32) &&& 0x3f).toInt64) - (1 : Int64)))), .second, .val (.int (1 : Int32))] [(.long (q &&& (((1 : Int64) <<< ((8 : Int32) &&& 0x3f).toInt64) - (1 : Int64))))])) _
    refine XS.aloadN X0.here hx rfl (hb hby d2_12) rfl rfl ?_
    show Steps p.tables e below (s₁.setTop (mkF m 13 #[.val (.ref b), .val (.int p1), .val (.int (3 : Int32)), .val (.long (q &&& (((1 : Int64) <<< ((8 : Int32) &&& 0x3f).toInt64) - (1 : Int64)))), .second, .val (.int (1 : Int32))] [(.ref b), (.long (q &&& (((1 : Int64) <<< ((8 : Int32) &&& 0x3f).toInt64) - (1 : Int64))))])) _
    refine XS.iloadN X0.here hx rfl (hb hby d2_13) rfl ?_
    show Steps p.tables e below (s₁.setTop (mkF m 14 #[.val (.ref b), .val (.int p1), .val (.int (3 : Int32)), .val (.long (q &&& (((1 : Int64) <<< ((8 : Int32) &&& 0x3f).toInt64) - (1 : Int64)))), .second, .val (.int (1 : Int32))] [(.int p1), (.ref b), (.long (q &&& (((1 : Int64) <<< ((8 : Int32) &&& 0x3f).toInt64) - (1 : Int64))))])) _
    refine XS.iload X0.here hx rfl (hb hby d2_14) rfl ?_
    show Steps p.tables e below (s₁.setTop (mkF m 16 #[.val (.ref b), .val (.int p1), .val (.int (3 : Int32)), .val (.long (q &&& (((1 : Int64) <<< ((8 : Int32) &&& 0x3f).toInt64) - (1 : Int64)))), .second, .val (.int (1 : Int32))] [(.int (1 : Int32)), (.int p1), (.ref b), (.long (q &&& (((1 : Int64) <<< ((8 : Int32) &&& 0x3f).toInt64) - (1 : Int64))))])) _
    refine XS.iadd X0.here hx rfl (hb hby d2_16) rfl ?_
    show Steps p.tables e below (s₁.setTop (mkF m 17 #[.val (.ref b), .val (.int p1), .val (.int (3 : Int32)), .val (.long (q &&& (((1 : Int64) <<< ((8 : Int32) &&& 0x3f).toInt64) - (1 : Int64)))), .second, .val (.int (1 : Int32))] [(.int (p1 + (1 : Int32))), (.ref b), (.long (q &&& (((1 : Int64) <<< ((8 : Int32) &&& 0x3f).toInt64) - (1 : Int64))))])) _
    exact kq)
  obtain ⟨cl24, Ar24, q24, S24, M24, H24, Gf24⟩ := id A
  have hi25 : ¬ ((p1 + (1 : Int32)) < 0 ∨ cl24.slots.size ≤ ((p1 + (1 : Int32))).toNatClampNeg) := (inb_of S24 (hat (1 : Int32) (Or.inr (Or.inl rfl))).1)
  have G26 : Go p e below A0 (s₁.setTop (mkF m 17 #[.val (.ref b), .val (.int p1), .val (.int (3 : Int32)), .val (.long (q &&& (((1 : Int64) <<< ((16 : Int32) &&& 0x3f).toInt64) - (1 : Int64)))), .second, .val (.int (2 : Int32))] [(.int (p1 + (2 : Int32))), (.ref b), (.long (q &&& (((1 : Int64) <<< ((16 : Int32) &&& 0x3f).toInt64) - (1 : Int64))))])) := fun tq kq => G23 tq (by
    refine X0.baloadBytes hx (j := (p1 + (1 : Int32))) (v := (.int (own_by q (1 : Int32)))) (by rw [e0]; exact Ar24.1) (State.isArrayOf_alike hZ.alike Ar24.2.1) Ar24.2.2 hi25 (H24.at hi25 (hat (1 : Int32) (Or.inr (Or.inl rfl))).2) (g := (mkF m 17 #[.val (.ref b), .val (.int p1), .val (.int (3 : Int32)), .val (.long (q &&& (((1 : Int64) <<< ((8 : Int32) &&& 0x3f).toInt64) - (1 : Int64)))), .second, .val (.int (1 : Int32))] [(.int (p1 + (1 : Int32))), (.ref b), (.long (q &&& (((1 : Int64) <<< ((8 : Int32) &&& 0x3f).toInt64) - (1 : Int64))))])) rfl rfl (hb hby d2_17) _ ?_
    show Steps p.tables e below (s₁.setTop (mkF m 18 #[.val (.ref b), .val (.int p1), .val (.int (3 : Int32)), .val (.long (q &&& (((1 : Int64) <<< ((8 : Int32) &&& 0x3f).toInt64) - (1 : Int64)))), .second, .val (.int (1 : Int32))] [(.int (own_by q (1 : Int32))), (.long (q &&& (((1 : Int64) <<< ((8 : Int32) &&& 0x3f).toInt64) - (1 : Int64))))])) _
    refine XS.sipush X0.here hx rfl (hb hby d2_18) ?_
    show Steps p.tables e below (s₁.setTop (mkF m 21 #[.val (.ref b), .val (.int p1), .val (.int (3 : Int32)), .val (.long (q &&& (((1 : Int64) <<< ((8 : Int32) &&& 0x3f).toInt64) - (1 : Int64)))), .second, .val (.int (1 : Int32))] [(.int (255 : Int32)), (.int (own_by q (1 : Int32))), (.long (q &&& (((1 : Int64) <<< ((8 : Int32) &&& 0x3f).toInt64) - (1 : Int64))))])) _
    refine XS.iand X0.here hx rfl (hb hby d2_21) rfl ?_
    show Steps p.tables e below (s₁.setTop (mkF m 22 #[.val (.ref b), .val (.int p1), .val (.int (3 : Int32)), .val (.long (q &&& (((1 : Int64) <<< ((8 : Int32) &&& 0x3f).toInt64) - (1 : Int64)))), .second, .val (.int (1 : Int32))] [(.int ((own_by q (1 : Int32)) &&& (255 : Int32))), (.long (q &&& (((1 : Int64) <<< ((8 : Int32) &&& 0x3f).toInt64) - (1 : Int64))))])) _
    refine XS.i2l X0.here hx rfl (hb hby d2_22) rfl ?_
    show Steps p.tables e below (s₁.setTop (mkF m 23 #[.val (.ref b), .val (.int p1), .val (.int (3 : Int32)), .val (.long (q &&& (((1 : Int64) <<< ((8 : Int32) &&& 0x3f).toInt64) - (1 : Int64)))), .second, .val (.int (1 : Int32))] [(.long ((own_by q (1 : Int32)) &&& (255 : Int32)).toInt64), (.long (q &&& (((1 : Int64) <<< ((8 : Int32) &&& 0x3f).toInt64) - (1 : Int64))))])) _
    refine XS.bipush X0.here hx rfl (hb hby d2_23) ?_
    show Steps p.tables e below (s₁.setTop (mkF m 25 #[.val (.ref b), .val (.int p1), .val (.int (3 : Int32)), .val (.long (q &&& (((1 : Int64) <<< ((8 : Int32) &&& 0x3f).toInt64) - (1 : Int64)))), .second, .val (.int (1 : Int32))] [(.int (8 : Int32)), (.long ((own_by q (1 : Int32)) &&& (255 : Int32)).toInt64), (.long (q &&& (((1 : Int64) <<< ((8 : Int32) &&& 0x3f).toInt64) - (1 : Int64))))])) _
    refine XS.iload X0.here hx rfl (hb hby d2_25) rfl ?_
    show Steps p.tables e below (s₁.setTop (mkF m 27 #[.val (.ref b), .val (.int p1), .val (.int (3 : Int32)), .val (.long (q &&& (((1 : Int64) <<< ((8 : Int32) &&& 0x3f).toInt64) - (1 : Int64)))), .second, .val (.int (1 : Int32))] [(.int (1 : Int32)), (.int (8 : Int32)), (.long ((own_by q (1 : Int32)) &&& (255 : Int32)).toInt64), (.long (q &&& (((1 : Int64) <<< ((8 : Int32) &&& 0x3f).toInt64) - (1 : Int64))))])) _
    refine XS.imul X0.here hx rfl (hb hby d2_27) rfl ?_
    show Steps p.tables e below (s₁.setTop (mkF m 28 #[.val (.ref b), .val (.int p1), .val (.int (3 : Int32)), .val (.long (q &&& (((1 : Int64) <<< ((8 : Int32) &&& 0x3f).toInt64) - (1 : Int64)))), .second, .val (.int (1 : Int32))] [(.int ((8 : Int32) * (1 : Int32))), (.long ((own_by q (1 : Int32)) &&& (255 : Int32)).toInt64), (.long (q &&& (((1 : Int64) <<< ((8 : Int32) &&& 0x3f).toInt64) - (1 : Int64))))])) _
    rw [show ((8 : Int32) * (1 : Int32)) = (8 : Int32) from (by decide : ((8 : Int32) * (1 : Int32)) = (8 : Int32))]
    show Steps p.tables e below (s₁.setTop (mkF m 28 #[.val (.ref b), .val (.int p1), .val (.int (3 : Int32)), .val (.long (q &&& (((1 : Int64) <<< ((8 : Int32) &&& 0x3f).toInt64) - (1 : Int64)))), .second, .val (.int (1 : Int32))] [(.int (8 : Int32)), (.long ((own_by q (1 : Int32)) &&& (255 : Int32)).toInt64), (.long (q &&& (((1 : Int64) <<< ((8 : Int32) &&& 0x3f).toInt64) - (1 : Int64))))])) _
    refine XS.lshl X0.here hx rfl (hb hby d2_28) rfl ?_
    show Steps p.tables e below (s₁.setTop (mkF m 29 #[.val (.ref b), .val (.int p1), .val (.int (3 : Int32)), .val (.long (q &&& (((1 : Int64) <<< ((8 : Int32) &&& 0x3f).toInt64) - (1 : Int64)))), .second, .val (.int (1 : Int32))] [(.long (((own_by q (1 : Int32)) &&& (255 : Int32)).toInt64 <<< ((8 : Int32) &&& 0x3f).toInt64)), (.long (q &&& (((1 : Int64) <<< ((8 : Int32) &&& 0x3f).toInt64) - (1 : Int64))))])) _
    refine XS.lor X0.here hx rfl (hb hby d2_29) rfl ?_
    show Steps p.tables e below (s₁.setTop (mkF m 30 #[.val (.ref b), .val (.int p1), .val (.int (3 : Int32)), .val (.long (q &&& (((1 : Int64) <<< ((8 : Int32) &&& 0x3f).toInt64) - (1 : Int64)))), .second, .val (.int (1 : Int32))] [(.long ((q &&& (((1 : Int64) <<< ((8 : Int32) &&& 0x3f).toInt64) - (1 : Int64))) ||| (((own_by q (1 : Int32)) &&& (255 : Int32)).toInt64 <<< ((8 : Int32) &&& 0x3f).toInt64)))])) _
    rw [show ((q &&& (((1 : Int64) <<< ((8 : Int32) &&& 0x3f).toInt64) - (1 : Int64))) ||| (((own_by q (1 : Int32)) &&& (255 : Int32)).toInt64 <<< ((8 : Int32) &&& 0x3f).toInt64)) = (q &&& (((1 : Int64) <<< ((16 : Int32) &&& 0x3f).toInt64) - (1 : Int64))) from own_step_1 q]
    show Steps p.tables e below (s₁.setTop (mkF m 30 #[.val (.ref b), .val (.int p1), .val (.int (3 : Int32)), .val (.long (q &&& (((1 : Int64) <<< ((8 : Int32) &&& 0x3f).toInt64) - (1 : Int64)))), .second, .val (.int (1 : Int32))] [(.long (q &&& (((1 : Int64) <<< ((16 : Int32) &&& 0x3f).toInt64) - (1 : Int64))))])) _
    refine XS.lstoreN X0.here hx rfl (hb hby d2_30) rfl (l' := #[.val (.ref b), .val (.int p1), .val (.int (3 : Int32)), .val (.long (q &&& (((1 : Int64) <<< ((16 : Int32) &&& 0x3f).toInt64) - (1 : Int64)))), .second, .val (.int (1 : Int32))]) rfl ?_
    show Steps p.tables e below (s₁.setTop (mkF m 31 #[.val (.ref b), .val (.int p1), .val (.int (3 : Int32)), .val (.long (q &&& (((1 : Int64) <<< ((16 : Int32) &&& 0x3f).toInt64) - (1 : Int64)))), .second, .val (.int (1 : Int32))] [])) _
    refine XS.iinc X0.here hx rfl (hb hby d2_31) rfl (l' := #[.val (.ref b), .val (.int p1), .val (.int (3 : Int32)), .val (.long (q &&& (((1 : Int64) <<< ((16 : Int32) &&& 0x3f).toInt64) - (1 : Int64)))), .second, .val (.int ((1 : Int32) + (1 : Int32)))]) rfl ?_
    show Steps p.tables e below (s₁.setTop (mkF m 34 #[.val (.ref b), .val (.int p1), .val (.int (3 : Int32)), .val (.long (q &&& (((1 : Int64) <<< ((16 : Int32) &&& 0x3f).toInt64) - (1 : Int64)))), .second, .val (.int ((1 : Int32) + (1 : Int32)))] [])) _
    rw [show ((1 : Int32) + (1 : Int32)) = (2 : Int32) from (by decide : ((1 : Int32) + (1 : Int32)) = (2 : Int32))]
    show Steps p.tables e below (s₁.setTop (mkF m 34 #[.val (.ref b), .val (.int p1), .val (.int (3 : Int32)), .val (.long (q &&& (((1 : Int64) <<< ((16 : Int32) &&& 0x3f).toInt64) - (1 : Int64)))), .second, .val (.int (2 : Int32))] [])) _
    refine XS.goto X0.here hx rfl (pc0 := 34) (pc' := 5) rfl (hb hby d2_34) (by decide) (by decide) ?_
    show Steps p.tables e below (s₁.setTop (mkF m 5 #[.val (.ref b), .val (.int p1), .val (.int (3 : Int32)), .val (.long (q &&& (((1 : Int64) <<< ((16 : Int32) &&& 0x3f).toInt64) - (1 : Int64)))), .second, .val (.int (2 : Int32))] [])) _
    refine XS.iload X0.here hx rfl (hb hby d2_5) rfl ?_
    show Steps p.tables e below (s₁.setTop (mkF m 7 #[.val (.ref b), .val (.int p1), .val (.int (3 : Int32)), .val (.long (q &&& (((1 : Int64) <<< ((16 : Int32) &&& 0x3f).toInt64) - (1 : Int64)))), .second, .val (.int (2 : Int32))] [(.int (2 : Int32))])) _
    refine XS.iloadN X0.here hx rfl (hb hby d2_7) rfl ?_
    show Steps p.tables e below (s₁.setTop (mkF m 8 #[.val (.ref b), .val (.int p1), .val (.int (3 : Int32)), .val (.long (q &&& (((1 : Int64) <<< ((16 : Int32) &&& 0x3f).toInt64) - (1 : Int64)))), .second, .val (.int (2 : Int32))] [(.int (3 : Int32)), (.int (2 : Int32))])) _
    refine XS.icmpNo X0.here hx rfl (hb hby d2_8) rfl (by decide) ?_
    show Steps p.tables e below (s₁.setTop (mkF m 11 #[.val (.ref b), .val (.int p1), .val (.int (3 : Int32)), .val (.long (q &&& (((1 : Int64) <<< ((16 : Int32) &&& 0x3f).toInt64) - (1 : Int64)))), .second, .val (.int (2 : Int32))] [])) _
    refine XS.lloadN X0.here hx rfl (hb hby d2_11) rfl ?_
    show Steps p.tables e below (s₁.setTop (mkF m 12 #[.val (.ref b), .val (.int p1), .val (.int (3 : Int32)), .val (.long (q &&& (((1 : Int64) <<< ((16 : Int32) &&& 0x3f).toInt64) - (1 : Int64)))), .second, .val (.int (2 : Int32))] [(.long (q &&& (((1 : Int64) <<< ((16 : Int32) &&& 0x3f).toInt64) - (1 : Int64))))])) _
    refine XS.aloadN X0.here hx rfl (hb hby d2_12) rfl rfl ?_
    show Steps p.tables e below (s₁.setTop (mkF m 13 #[.val (.ref b), .val (.int p1), .val (.int (3 : Int32)), .val (.long (q &&& (((1 : Int64) <<< ((16 : Int32) &&& 0x3f).toInt64) - (1 : Int64)))), .second, .val (.int (2 : Int32))] [(.ref b), (.long (q &&& (((1 : Int64) <<< ((16 : Int32) &&& 0x3f).toInt64) - (1 : Int64))))])) _
    refine XS.iloadN X0.here hx rfl (hb hby d2_13) rfl ?_
    show Steps p.tables e below (s₁.setTop (mkF m 14 #[.val (.ref b), .val (.int p1), .val (.int (3 : Int32)), .val (.long (q &&& (((1 : Int64) <<< ((16 : Int32) &&& 0x3f).toInt64) - (1 : Int64)))), .second, .val (.int (2 : Int32))] [(.int p1), (.ref b), (.long (q &&& (((1 : Int64) <<< ((16 : Int32) &&& 0x3f).toInt64) - (1 : Int64))))])) _
    refine XS.iload X0.here hx rfl (hb hby d2_14) rfl ?_
    show Steps p.tables e below (s₁.setTop (mkF m 16 #[.val (.ref b), .val (.int p1), .val (.int (3 : Int32)), .val (.long (q &&& (((1 : Int64) <<< ((16 : Int32) &&& 0x3f).toInt64) - (1 : Int64)))), .second, .val (.int (2 : Int32))] [(.int (2 : Int32)), (.int p1), (.ref b), (.long (q &&& (((1 : Int64) <<< ((16 : Int32) &&& 0x3f).toInt64) - (1 : Int64))))])) _
    refine XS.iadd X0.here hx rfl (hb hby d2_16) rfl ?_
    show Steps p.tables e below (s₁.setTop (mkF m 17 #[.val (.ref b), .val (.int p1), .val (.int (3 : Int32)), .val (.long (q &&& (((1 : Int64) <<< ((16 : Int32) &&& 0x3f).toInt64) - (1 : Int64)))), .second, .val (.int (2 : Int32))] [(.int (p1 + (2 : Int32))), (.ref b), (.long (q &&& (((1 : Int64) <<< ((16 : Int32) &&& 0x3f).toInt64) - (1 : Int64))))])) _
    exact kq)
  obtain ⟨cl27, Ar27, q27, S27, M27, H27, Gf27⟩ := id A
  have hi28 : ¬ ((p1 + (2 : Int32)) < 0 ∨ cl27.slots.size ≤ ((p1 + (2 : Int32))).toNatClampNeg) := (inb_of S27 (hat (2 : Int32) (Or.inr (Or.inr (Or.inl rfl)))).1)
  have G29 : Go p e below A0 (s₁.setTop (mkF m 38 #[.val (.ref b), .val (.int p1), .val (.int (3 : Int32)), .val (.long (q &&& (((1 : Int64) <<< ((24 : Int32) &&& 0x3f).toInt64) - (1 : Int64)))), .second, .val (.int (3 : Int32))] [(.long (q &&& (((1 : Int64) <<< ((24 : Int32) &&& 0x3f).toInt64) - (1 : Int64))))])) := fun tq kq => G26 tq (by
    refine X0.baloadBytes hx (j := (p1 + (2 : Int32))) (v := (.int (own_by q (2 : Int32)))) (by rw [e0]; exact Ar27.1) (State.isArrayOf_alike hZ.alike Ar27.2.1) Ar27.2.2 hi28 (H27.at hi28 (hat (2 : Int32) (Or.inr (Or.inr (Or.inl rfl)))).2) (g := (mkF m 17 #[.val (.ref b), .val (.int p1), .val (.int (3 : Int32)), .val (.long (q &&& (((1 : Int64) <<< ((16 : Int32) &&& 0x3f).toInt64) - (1 : Int64)))), .second, .val (.int (2 : Int32))] [(.int (p1 + (2 : Int32))), (.ref b), (.long (q &&& (((1 : Int64) <<< ((16 : Int32) &&& 0x3f).toInt64) - (1 : Int64))))])) rfl rfl (hb hby d2_17) _ ?_
    show Steps p.tables e below (s₁.setTop (mkF m 18 #[.val (.ref b), .val (.int p1), .val (.int (3 : Int32)), .val (.long (q &&& (((1 : Int64) <<< ((16 : Int32) &&& 0x3f).toInt64) - (1 : Int64)))), .second, .val (.int (2 : Int32))] [(.int (own_by q (2 : Int32))), (.long (q &&& (((1 : Int64) <<< ((16 : Int32) &&& 0x3f).toInt64) - (1 : Int64))))])) _
    refine XS.sipush X0.here hx rfl (hb hby d2_18) ?_
    show Steps p.tables e below (s₁.setTop (mkF m 21 #[.val (.ref b), .val (.int p1), .val (.int (3 : Int32)), .val (.long (q &&& (((1 : Int64) <<< ((16 : Int32) &&& 0x3f).toInt64) - (1 : Int64)))), .second, .val (.int (2 : Int32))] [(.int (255 : Int32)), (.int (own_by q (2 : Int32))), (.long (q &&& (((1 : Int64) <<< ((16 : Int32) &&& 0x3f).toInt64) - (1 : Int64))))])) _
    refine XS.iand X0.here hx rfl (hb hby d2_21) rfl ?_
    show Steps p.tables e below (s₁.setTop (mkF m 22 #[.val (.ref b), .val (.int p1), .val (.int (3 : Int32)), .val (.long (q &&& (((1 : Int64) <<< ((16 : Int32) &&& 0x3f).toInt64) - (1 : Int64)))), .second, .val (.int (2 : Int32))] [(.int ((own_by q (2 : Int32)) &&& (255 : Int32))), (.long (q &&& (((1 : Int64) <<< ((16 : Int32) &&& 0x3f).toInt64) - (1 : Int64))))])) _
    refine XS.i2l X0.here hx rfl (hb hby d2_22) rfl ?_
    show Steps p.tables e below (s₁.setTop (mkF m 23 #[.val (.ref b), .val (.int p1), .val (.int (3 : Int32)), .val (.long (q &&& (((1 : Int64) <<< ((16 : Int32) &&& 0x3f).toInt64) - (1 : Int64)))), .second, .val (.int (2 : Int32))] [(.long ((own_by q (2 : Int32)) &&& (255 : Int32)).toInt64), (.long (q &&& (((1 : Int64) <<< ((16 : Int32) &&& 0x3f).toInt64) - (1 : Int64))))])) _
    refine XS.bipush X0.here hx rfl (hb hby d2_23) ?_
    show Steps p.tables e below (s₁.setTop (mkF m 25 #[.val (.ref b), .val (.int p1), .val (.int (3 : Int32)), .val (.long (q &&& (((1 : Int64) <<< ((16 : Int32) &&& 0x3f).toInt64) - (1 : Int64)))), .second, .val (.int (2 : Int32))] [(.int (8 : Int32)), (.long ((own_by q (2 : Int32)) &&& (255 : Int32)).toInt64), (.long (q &&& (((1 : Int64) <<< ((16 : Int32) &&& 0x3f).toInt64) - (1 : Int64))))])) _
    refine XS.iload X0.here hx rfl (hb hby d2_25) rfl ?_
    show Steps p.tables e below (s₁.setTop (mkF m 27 #[.val (.ref b), .val (.int p1), .val (.int (3 : Int32)), .val (.long (q &&& (((1 : Int64) <<< ((16 : Int32) &&& 0x3f).toInt64) - (1 : Int64)))), .second, .val (.int (2 : Int32))] [(.int (2 : Int32)), (.int (8 : Int32)), (.long ((own_by q (2 : Int32)) &&& (255 : Int32)).toInt64), (.long (q &&& (((1 : Int64) <<< ((16 : Int32) &&& 0x3f).toInt64) - (1 : Int64))))])) _
    refine XS.imul X0.here hx rfl (hb hby d2_27) rfl ?_
    show Steps p.tables e below (s₁.setTop (mkF m 28 #[.val (.ref b), .val (.int p1), .val (.int (3 : Int32)), .val (.long (q &&& (((1 : Int64) <<< ((16 : Int32) &&& 0x3f).toInt64) - (1 : Int64)))), .second, .val (.int (2 : Int32))] [(.int ((8 : Int32) * (2 : Int32))), (.long ((own_by q (2 : Int32)) &&& (255 : Int32)).toInt64), (.long (q &&& (((1 : Int64) <<< ((16 : Int32) &&& 0x3f).toInt64) - (1 : Int64))))])) _
    rw [show ((8 : Int32) * (2 : Int32)) = (16 : Int32) from (by decide : ((8 : Int32) * (2 : Int32)) = (16 : Int32))]
    show Steps p.tables e below (s₁.setTop (mkF m 28 #[.val (.ref b), .val (.int p1), .val (.int (3 : Int32)), .val (.long (q &&& (((1 : Int64) <<< ((16 : Int32) &&& 0x3f).toInt64) - (1 : Int64)))), .second, .val (.int (2 : Int32))] [(.int (16 : Int32)), (.long ((own_by q (2 : Int32)) &&& (255 : Int32)).toInt64), (.long (q &&& (((1 : Int64) <<< ((16 : Int32) &&& 0x3f).toInt64) - (1 : Int64))))])) _
    refine XS.lshl X0.here hx rfl (hb hby d2_28) rfl ?_
    show Steps p.tables e below (s₁.setTop (mkF m 29 #[.val (.ref b), .val (.int p1), .val (.int (3 : Int32)), .val (.long (q &&& (((1 : Int64) <<< ((16 : Int32) &&& 0x3f).toInt64) - (1 : Int64)))), .second, .val (.int (2 : Int32))] [(.long (((own_by q (2 : Int32)) &&& (255 : Int32)).toInt64 <<< ((16 : Int32) &&& 0x3f).toInt64)), (.long (q &&& (((1 : Int64) <<< ((16 : Int32) &&& 0x3f).toInt64) - (1 : Int64))))])) _
    refine XS.lor X0.here hx rfl (hb hby d2_29) rfl ?_
    show Steps p.tables e below (s₁.setTop (mkF m 30 #[.val (.ref b), .val (.int p1), .val (.int (3 : Int32)), .val (.long (q &&& (((1 : Int64) <<< ((16 : Int32) &&& 0x3f).toInt64) - (1 : Int64)))), .second, .val (.int (2 : Int32))] [(.long ((q &&& (((1 : Int64) <<< ((16 : Int32) &&& 0x3f).toInt64) - (1 : Int64))) ||| (((own_by q (2 : Int32)) &&& (255 : Int32)).toInt64 <<< ((16 : Int32) &&& 0x3f).toInt64)))])) _
    rw [show ((q &&& (((1 : Int64) <<< ((16 : Int32) &&& 0x3f).toInt64) - (1 : Int64))) ||| (((own_by q (2 : Int32)) &&& (255 : Int32)).toInt64 <<< ((16 : Int32) &&& 0x3f).toInt64)) = (q &&& (((1 : Int64) <<< ((24 : Int32) &&& 0x3f).toInt64) - (1 : Int64))) from own_step_2 q]
    show Steps p.tables e below (s₁.setTop (mkF m 30 #[.val (.ref b), .val (.int p1), .val (.int (3 : Int32)), .val (.long (q &&& (((1 : Int64) <<< ((16 : Int32) &&& 0x3f).toInt64) - (1 : Int64)))), .second, .val (.int (2 : Int32))] [(.long (q &&& (((1 : Int64) <<< ((24 : Int32) &&& 0x3f).toInt64) - (1 : Int64))))])) _
    refine XS.lstoreN X0.here hx rfl (hb hby d2_30) rfl (l' := #[.val (.ref b), .val (.int p1), .val (.int (3 : Int32)), .val (.long (q &&& (((1 : Int64) <<< ((24 : Int32) &&& 0x3f).toInt64) - (1 : Int64)))), .second, .val (.int (2 : Int32))]) rfl ?_
    show Steps p.tables e below (s₁.setTop (mkF m 31 #[.val (.ref b), .val (.int p1), .val (.int (3 : Int32)), .val (.long (q &&& (((1 : Int64) <<< ((24 : Int32) &&& 0x3f).toInt64) - (1 : Int64)))), .second, .val (.int (2 : Int32))] [])) _
    refine XS.iinc X0.here hx rfl (hb hby d2_31) rfl (l' := #[.val (.ref b), .val (.int p1), .val (.int (3 : Int32)), .val (.long (q &&& (((1 : Int64) <<< ((24 : Int32) &&& 0x3f).toInt64) - (1 : Int64)))), .second, .val (.int ((2 : Int32) + (1 : Int32)))]) rfl ?_
    show Steps p.tables e below (s₁.setTop (mkF m 34 #[.val (.ref b), .val (.int p1), .val (.int (3 : Int32)), .val (.long (q &&& (((1 : Int64) <<< ((24 : Int32) &&& 0x3f).toInt64) - (1 : Int64)))), .second, .val (.int ((2 : Int32) + (1 : Int32)))] [])) _
    rw [show ((2 : Int32) + (1 : Int32)) = (3 : Int32) from (by decide : ((2 : Int32) + (1 : Int32)) = (3 : Int32))]
    show Steps p.tables e below (s₁.setTop (mkF m 34 #[.val (.ref b), .val (.int p1), .val (.int (3 : Int32)), .val (.long (q &&& (((1 : Int64) <<< ((24 : Int32) &&& 0x3f).toInt64) - (1 : Int64)))), .second, .val (.int (3 : Int32))] [])) _
    refine XS.goto X0.here hx rfl (pc0 := 34) (pc' := 5) rfl (hb hby d2_34) (by decide) (by decide) ?_
    show Steps p.tables e below (s₁.setTop (mkF m 5 #[.val (.ref b), .val (.int p1), .val (.int (3 : Int32)), .val (.long (q &&& (((1 : Int64) <<< ((24 : Int32) &&& 0x3f).toInt64) - (1 : Int64)))), .second, .val (.int (3 : Int32))] [])) _
    refine XS.iload X0.here hx rfl (hb hby d2_5) rfl ?_
    show Steps p.tables e below (s₁.setTop (mkF m 7 #[.val (.ref b), .val (.int p1), .val (.int (3 : Int32)), .val (.long (q &&& (((1 : Int64) <<< ((24 : Int32) &&& 0x3f).toInt64) - (1 : Int64)))), .second, .val (.int (3 : Int32))] [(.int (3 : Int32))])) _
    refine XS.iloadN X0.here hx rfl (hb hby d2_7) rfl ?_
    show Steps p.tables e below (s₁.setTop (mkF m 8 #[.val (.ref b), .val (.int p1), .val (.int (3 : Int32)), .val (.long (q &&& (((1 : Int64) <<< ((24 : Int32) &&& 0x3f).toInt64) - (1 : Int64)))), .second, .val (.int (3 : Int32))] [(.int (3 : Int32)), (.int (3 : Int32))])) _
    refine XS.icmpYes X0.here hx rfl (pc0 := 8) (pc' := 37) rfl (hb hby d2_8) rfl (by decide) (by decide) (by decide) ?_
    show Steps p.tables e below (s₁.setTop (mkF m 37 #[.val (.ref b), .val (.int p1), .val (.int (3 : Int32)), .val (.long (q &&& (((1 : Int64) <<< ((24 : Int32) &&& 0x3f).toInt64) - (1 : Int64)))), .second, .val (.int (3 : Int32))] [])) _
    refine XS.lloadN X0.here hx rfl (hb hby d2_37) rfl ?_
    show Steps p.tables e below (s₁.setTop (mkF m 38 #[.val (.ref b), .val (.int p1), .val (.int (3 : Int32)), .val (.long (q &&& (((1 : Int64) <<< ((24 : Int32) &&& 0x3f).toInt64) - (1 : Int64)))), .second, .val (.int (3 : Int32))] [(.long (q &&& (((1 : Int64) <<< ((24 : Int32) &&& 0x3f).toInt64) - (1 : Int64))))])) _
    exact kq)
  obtain ⟨fs, hr, hrun, hended, hW, hsame⟩ := X0.leave (v := some (.long (q &&& (((1 : Int64) <<< ((24 : Int32) &&& 0x3f).toInt64) - (1 : Int64))))) (fun h => by rw [Bd.returns] at h; cases h)
  refine ⟨_, _, (by rw [← hA0]; exact G29 _ (retOut X0 hx (t := .long) Bd.returns rfl (Or.inr (Or.inl ⟨rfl, rfl, _, rfl⟩)) (hb hby d2_38) hr)), hrun, hended, _, _, rfl, ?_, ⟨_, rfl⟩, hW, hsame.mono (by decide) (by decide)⟩
  exact ⟨rfl, N0, e0⟩
set_option maxRecDepth 65536 in
set_option maxHeartbeats 40000000 in
theorem rm2_4 (l : Launch) (Z : State) (a0 : Array Value) (hw : ∀ d ∈ tables_1, d.before a0 Z = true) (ws : List Jvm.Cond) (b : Addr) (p1 : Int32) (q : Int64) (kb : ClassId) (vs : List Value) (h0 : Heap) (n0 : Nat) (Z0 : n0 ≤ h0.size) (A : Arv Z h0 b kb .byte (12 : Int32) vs (.int (0 : Int32))) (hat : own_Hat vs p1 q) :
    MetFree l (⟨"com/example/ledgerline/ledgerline/format/GrowingBytes", "littleEndian", "([BII)J"⟩ : MethodName) (head1 (Jvm.Cond.code (⟨"com/example/ledgerline/ledgerline/format/GrowingBytes", "littleEndian", "([BII)J"⟩ : MethodName) prog_17_method_11_code 6 (some .long) :: ws) ({ frames := 0, cells := 0, slots := 0, locals := 0 } : Room)) (fun aa UU => aa = #[(.ref b), (.int p1), (.int (4 : Int32))] ∧ Z.Warmed39 UU.vm ∧ UU.heap = h0) (fun _ _ _ _ _ => True) (fun _ UU oo U' => ∃ v L, oo = .returned v ∧ Qr (.long (q &&& (((1 : Int64) <<< ((32 : Int32) &&& 0x3f).toInt64) - (1 : Int64)))) h0 n0 v U'.heap L ∧ FrameEnd UU oo U' L ({ frames := 0, cells := 0, slots := 0, locals := 0 } : Room).cells ({ frames := 0, cells := 0, slots := 0, locals := 0 } : Room).slots) := by
  refine MetFree.of_bodySF (plainFor_of_name pn_1) hisR ?_
  intro p e s m args below meth c s₁ Bd hml0 hP hK
  obtain ⟨rfl, hZ, hh⟩ := hP
  have hx := Bd.exec
  have hby := Bd.bytes
  have hml : c.maxLocals = 6 := hml0
  have hown : s.vm.findClass "com/example/ledgerline/ledgerline/format/GrowingBytes" = some m.cls := findClass_of_methodNamed Bd.named
  have hnm := (name_of_methodNamed Bd.named Bd.method).1
  have X0 : Stand p l e ({ frames := 0, cells := 0, slots := 0, locals := 0 } : Room) s m #[(.ref b), (.int p1), (.int (4 : Int32))] below meth c s₁ [] 0 0 := Stand.of_body Bd
  have e0 : s₁.heap = h0 := by rw [← hh, Bd.state]; rfl
  have N0 := Fr.nil n0
  obtain ⟨A0, hA0⟩ : ∃ A, A = s₁.setTop (entryFrame m #[(.ref b), (.int p1), (.int (4 : Int32))] 6) := ⟨_, rfl⟩
  have G0 : Go p e below A0 (s₁.setTop (mkF m 0 #[.val (.ref b), .val (.int p1), .val (.int (4 : Int32)), .unset, .unset, .unset] [])) := fun tq kq => by rw [hA0]; exact castTop (ef_rm2_4 m b p1 (4 : Int32)) kq
  have G30 : Go p e below A0 (s₁.setTop (mkF m 17 #[.val (.ref b), .val (.int p1), .val (.int (4 : Int32)), .val (.long (0 : Int64)), .second, .val (.int (0 : Int32))] [(.int (p1 + (0 : Int32))), (.ref b), (.long (0 : Int64))])) := fun tq kq => G0 tq (by
    refine XS.lconst X0.here hx rfl (hb hby d2_0) ?_
    show Steps p.tables e below (s₁.setTop (mkF m 1 #[.val (.ref b), .val (.int p1), .val (.int (4 : Int32)), .unset, .unset, .unset] [(.long (0 : Int64))])) _
    refine XS.lstoreN X0.here hx rfl (hb hby d2_1) rfl (l' := #[.val (.ref b), .val (.int p1), .val (.int (4 : Int32)), .val (.long (0 : Int64)), .second, .unset]) rfl ?_
    show Steps p.tables e below (s₁.setTop (mkF m 2 #[.val (.ref b), .val (.int p1), .val (.int (4 : Int32)), .val (.long (0 : Int64)), .second, .unset] [])) _
    refine XS.iconst X0.here hx rfl (hb hby d2_2) ?_
    show Steps p.tables e below (s₁.setTop (mkF m 3 #[.val (.ref b), .val (.int p1), .val (.int (4 : Int32)), .val (.long (0 : Int64)), .second, .unset] [(.int (0 : Int32))])) _
    refine XS.istore X0.here hx rfl (hb hby d2_3) rfl (l' := #[.val (.ref b), .val (.int p1), .val (.int (4 : Int32)), .val (.long (0 : Int64)), .second, .val (.int (0 : Int32))]) rfl ?_
    show Steps p.tables e below (s₁.setTop (mkF m 5 #[.val (.ref b), .val (.int p1), .val (.int (4 : Int32)), .val (.long (0 : Int64)), .second, .val (.int (0 : Int32))] [])) _
    refine XS.iload X0.here hx rfl (hb hby d2_5) rfl ?_
    show Steps p.tables e below (s₁.setTop (mkF m 7 #[.val (.ref b), .val (.int p1), .val (.int (4 : Int32)), .val (.long (0 : Int64)), .second, .val (.int (0 : Int32))] [(.int (0 : Int32))])) _
    refine XS.iloadN X0.here hx rfl (hb hby d2_7) rfl ?_
    show Steps p.tables e below (s₁.setTop (mkF m 8 #[.val (.ref b), .val (.int p1), .val (.int (4 : Int32)), .val (.long (0 : Int64)), .second, .val (.int (0 : Int32))] [(.int (4 : Int32)), (.int (0 : Int32))])) _
    refine XS.icmpNo X0.here hx rfl (hb hby d2_8) rfl (by decide) ?_
    show Steps p.tables e below (s₁.setTop (mkF m 11 #[.val (.ref b), .val (.int p1), .val (.int (4 : Int32)), .val (.long (0 : Int64)), .second, .val (.int (0 : Int32))] [])) _
    refine XS.lloadN X0.here hx rfl (hb hby d2_11) rfl ?_
    show Steps p.tables e below (s₁.setTop (mkF m 12 #[.val (.ref b), .val (.int p1), .val (.int (4 : Int32)), .val (.long (0 : Int64)), .second, .val (.int (0 : Int32))] [(.long (0 : Int64))])) _
    refine XS.aloadN X0.here hx rfl (hb hby d2_12) rfl rfl ?_
    show Steps p.tables e below (s₁.setTop (mkF m 13 #[.val (.ref b), .val (.int p1), .val (.int (4 : Int32)), .val (.long (0 : Int64)), .second, .val (.int (0 : Int32))] [(.ref b), (.long (0 : Int64))])) _
    refine XS.iloadN X0.here hx rfl (hb hby d2_13) rfl ?_
    show Steps p.tables e below (s₁.setTop (mkF m 14 #[.val (.ref b), .val (.int p1), .val (.int (4 : Int32)), .val (.long (0 : Int64)), .second, .val (.int (0 : Int32))] [(.int p1), (.ref b), (.long (0 : Int64))])) _
    refine XS.iload X0.here hx rfl (hb hby d2_14) rfl ?_
    show Steps p.tables e below (s₁.setTop (mkF m 16 #[.val (.ref b), .val (.int p1), .val (.int (4 : Int32)), .val (.long (0 : Int64)), .second, .val (.int (0 : Int32))] [(.int (0 : Int32)), (.int p1), (.ref b), (.long (0 : Int64))])) _
    refine XS.iadd X0.here hx rfl (hb hby d2_16) rfl ?_
    show Steps p.tables e below (s₁.setTop (mkF m 17 #[.val (.ref b), .val (.int p1), .val (.int (4 : Int32)), .val (.long (0 : Int64)), .second, .val (.int (0 : Int32))] [(.int (p1 + (0 : Int32))), (.ref b), (.long (0 : Int64))])) _
    exact kq)
  obtain ⟨cl31, Ar31, q31, S31, M31, H31, Gf31⟩ := id A
  have hi32 : ¬ ((p1 + (0 : Int32)) < 0 ∨ cl31.slots.size ≤ ((p1 + (0 : Int32))).toNatClampNeg) := (inb_of S31 (hat (0 : Int32) (Or.inl rfl)).1)
  have G33 : Go p e below A0 (s₁.setTop (mkF m 17 #[.val (.ref b), .val (.int p1), .val (.int (4 : Int32)), .val (.long (q &&& (((1 : Int64) <<< ((8 : Int32) &&& 0x3f).toInt64) - (1 : Int64)))), .second, .val (.int (1 : Int32))] [(.int (p1 + (1 : Int32))), (.ref b), (.long (q &&& (((1 : Int64) <<< ((8 : Int32) &&& 0x3f).toInt64) - (1 : Int64))))])) := fun tq kq => G30 tq (by
    refine X0.baloadBytes hx (j := (p1 + (0 : Int32))) (v := (.int (own_by q (0 : Int32)))) (by rw [e0]; exact Ar31.1) (State.isArrayOf_alike hZ.alike Ar31.2.1) Ar31.2.2 hi32 (H31.at hi32 (hat (0 : Int32) (Or.inl rfl)).2) (g := (mkF m 17 #[.val (.ref b), .val (.int p1), .val (.int (4 : Int32)), .val (.long (0 : Int64)), .second, .val (.int (0 : Int32))] [(.int (p1 + (0 : Int32))), (.ref b), (.long (0 : Int64))])) rfl rfl (hb hby d2_17) _ ?_
    show Steps p.tables e below (s₁.setTop (mkF m 18 #[.val (.ref b), .val (.int p1), .val (.int (4 : Int32)), .val (.long (0 : Int64)), .second, .val (.int (0 : Int32))] [(.int (own_by q (0 : Int32))), (.long (0 : Int64))])) _
    refine XS.sipush X0.here hx rfl (hb hby d2_18) ?_
    show Steps p.tables e below (s₁.setTop (mkF m 21 #[.val (.ref b), .val (.int p1), .val (.int (4 : Int32)), .val (.long (0 : Int64)), .second, .val (.int (0 : Int32))] [(.int (255 : Int32)), (.int (own_by q (0 : Int32))), (.long (0 : Int64))])) _
    refine XS.iand X0.here hx rfl (hb hby d2_21) rfl ?_
    show Steps p.tables e below (s₁.setTop (mkF m 22 #[.val (.ref b), .val (.int p1), .val (.int (4 : Int32)), .val (.long (0 : Int64)), .second, .val (.int (0 : Int32))] [(.int ((own_by q (0 : Int32)) &&& (255 : Int32))), (.long (0 : Int64))])) _
    refine XS.i2l X0.here hx rfl (hb hby d2_22) rfl ?_
    show Steps p.tables e below (s₁.setTop (mkF m 23 #[.val (.ref b), .val (.int p1), .val (.int (4 : Int32)), .val (.long (0 : Int64)), .second, .val (.int (0 : Int32))] [(.long ((own_by q (0 : Int32)) &&& (255 : Int32)).toInt64), (.long (0 : Int64))])) _
    refine XS.bipush X0.here hx rfl (hb hby d2_23) ?_
    show Steps p.tables e below (s₁.setTop (mkF m 25 #[.val (.ref b), .val (.int p1), .val (.int (4 : Int32)), .val (.long (0 : Int64)), .second, .val (.int (0 : Int32))] [(.int (8 : Int32)), (.long ((own_by q (0 : Int32)) &&& (255 : Int32)).toInt64), (.long (0 : Int64))])) _
    refine XS.iload X0.here hx rfl (hb hby d2_25) rfl ?_
    show Steps p.tables e below (s₁.setTop (mkF m 27 #[.val (.ref b), .val (.int p1), .val (.int (4 : Int32)), .val (.long (0 : Int64)), .second, .val (.int (0 : Int32))] [(.int (0 : Int32)), (.int (8 : Int32)), (.long ((own_by q (0 : Int32)) &&& (255 : Int32)).toInt64), (.long (0 : Int64))])) _
    refine XS.imul X0.here hx rfl (hb hby d2_27) rfl ?_
    show Steps p.tables e below (s₁.setTop (mkF m 28 #[.val (.ref b), .val (.int p1), .val (.int (4 : Int32)), .val (.long (0 : Int64)), .second, .val (.int (0 : Int32))] [(.int ((8 : Int32) * (0 : Int32))), (.long ((own_by q (0 : Int32)) &&& (255 : Int32)).toInt64), (.long (0 : Int64))])) _
    rw [show ((8 : Int32) * (0 : Int32)) = (0 : Int32) from (by decide : ((8 : Int32) * (0 : Int32)) = (0 : Int32))]
    show Steps p.tables e below (s₁.setTop (mkF m 28 #[.val (.ref b), .val (.int p1), .val (.int (4 : Int32)), .val (.long (0 : Int64)), .second, .val (.int (0 : Int32))] [(.int (0 : Int32)), (.long ((own_by q (0 : Int32)) &&& (255 : Int32)).toInt64), (.long (0 : Int64))])) _
    refine XS.lshl X0.here hx rfl (hb hby d2_28) rfl ?_
    show Steps p.tables e below (s₁.setTop (mkF m 29 #[.val (.ref b), .val (.int p1), .val (.int (4 : Int32)), .val (.long (0 : Int64)), .second, .val (.int (0 : Int32))] [(.long (((own_by q (0 : Int32)) &&& (255 : Int32)).toInt64 <<< ((0 : Int32) &&& 0x3f).toInt64)), (.long (0 : Int64))])) _
    refine XS.lor X0.here hx rfl (hb hby d2_29) rfl ?_
    show Steps p.tables e below (s₁.setTop (mkF m 30 #[.val (.ref b), .val (.int p1), .val (.int (4 : Int32)), .val (.long (0 : Int64)), .second, .val (.int (0 : Int32))] [(.long ((0 : Int64) ||| (((own_by q (0 : Int32)) &&& (255 : Int32)).toInt64 <<< ((0 : Int32) &&& 0x3f).toInt64)))])) _
    rw [show ((0 : Int64) ||| (((own_by q (0 : Int32)) &&& (255 : Int32)).toInt64 <<< ((0 : Int32) &&& 0x3f).toInt64)) = (q &&& (((1 : Int64) <<< ((8 : Int32) &&& 0x3f).toInt64) - (1 : Int64))) from own_step_0 q]
    show Steps p.tables e below (s₁.setTop (mkF m 30 #[.val (.ref b), .val (.int p1), .val (.int (4 : Int32)), .val (.long (0 : Int64)), .second, .val (.int (0 : Int32))] [(.long (q &&& (((1 : Int64) <<< ((8 : Int32) &&& 0x3f).toInt64) - (1 : Int64))))])) _
    refine XS.lstoreN X0.here hx rfl (hb hby d2_30) rfl (l' := #[.val (.ref b), .val (.int p1), .val (.int (4 : Int32)), .val (.long (q &&& (((1 : Int64) <<< ((8 : Int32) &&& 0x3f).toInt64) - (1 : Int64)))), .second, .val (.int (0 : Int32))]) rfl ?_
    show Steps p.tables e below (s₁.setTop (mkF m 31 #[.val (.ref b), .val (.int p1), .val (.int (4 : Int32)), .val (.long (q &&& (((1 : Int64) <<< ((8 : Int32) &&& 0x3f).toInt64) - (1 : Int64)))), .second, .val (.int (0 : Int32))] [])) _
    refine XS.iinc X0.here hx rfl (hb hby d2_31) rfl (l' := #[.val (.ref b), .val (.int p1), .val (.int (4 : Int32)), .val (.long (q &&& (((1 : Int64) <<< ((8 : Int32) &&& 0x3f).toInt64) - (1 : Int64)))), .second, .val (.int ((0 : Int32) + (1 : Int32)))]) rfl ?_
    show Steps p.tables e below (s₁.setTop (mkF m 34 #[.val (.ref b), .val (.int p1), .val (.int (4 : Int32)), .val (.long (q &&& (((1 : Int64) <<< ((8 : Int32) &&& 0x3f).toInt64) - (1 : Int64)))), .second, .val (.int ((0 : Int32) + (1 : Int32)))] [])) _
    rw [show ((0 : Int32) + (1 : Int32)) = (1 : Int32) from (by decide : ((0 : Int32) + (1 : Int32)) = (1 : Int32))]
    show Steps p.tables e below (s₁.setTop (mkF m 34 #[.val (.ref b), .val (.int p1), .val (.int (4 : Int32)), .val (.long (q &&& (((1 : Int64) <<< ((8 : Int32) &&& 0x3f).toInt64) - (1 : Int64)))), .second, .val (.int (1 : Int32))] [])) _
    refine XS.goto X0.here hx rfl (pc0 := 34) (pc' := 5) rfl (hb hby d2_34) (by decide) (by decide) ?_
    show Steps p.tables e below (s₁.setTop (mkF m 5 #[.val (.ref b), .val (.int p1), .val (.int (4 : Int32)), .val (.long (q &&& (((1 : Int64) <<< ((8 : Int32) &&& 0x3f).toInt64) - (1 : Int64)))), .second, .val (.int (1 : Int32))] [])) _
    refine XS.iload X0.here hx rfl (hb hby d2_5) rfl ?_
    show Steps p.tables e below (s₁.setTop (mkF m 7 #[.val (.ref b), .val (.int p1), .val (.int (4 : Int32)), .val (.long (q &&& (((1 : Int64) <<< ((8 : Int32) &&& 0x3f).toInt64) - (1 : Int64)))), .second, .val (.int (1 : Int32))] [(.int (1 : Int32))])) _
    refine XS.iloadN X0.here hx rfl (hb hby d2_7) rfl ?_
    show Steps p.tables e below (s₁.setTop (mkF m 8 #[.val (.ref b), .val (.int p1), .val (.int (4 : Int32)), .val (.long (q &&& (((1 : Int64) <<< ((8 : Int32) &&& 0x3f).toInt64) - (1 : Int64)))), .second, .val (.int (1 : Int32))] [(.int (4 : Int32)), (.int (1 : Int32))])) _
    refine XS.icmpNo X0.here hx rfl (hb hby d2_8) rfl (by decide) ?_
    show Steps p.tables e below (s₁.setTop (mkF m 11 #[.val (.ref b), .val (.int p1), .val (.int (4 : Int32)), .val (.long (q &&& (((1 : Int64) <<< ((8 : Int32) &&& 0x3f).toInt64) - (1 : Int64)))), .second, .val (.int (1 : Int32))] [])) _
    refine XS.lloadN X0.here hx rfl (hb hby d2_11) rfl ?_
    show Steps p.tables e below (s₁.setTop (mkF m 12 #[.val (.ref b), .val (.int p1), .val (.int (4 : Int32)), .val (.long (q &&& (((1 : Int64) <<< ((8 : Int32) &&& 0x3f).toInt64) - (1 : Int64)))), .second, .val (.int (1 : Int32))] [(.long (q &&& (((1 : Int64) <<< ((8 : Int32) &&& 0x3f).toInt64) - (1 : Int64))))])) _
    refine XS.aloadN X0.here hx rfl (hb hby d2_12) rfl rfl ?_
    show Steps p.tables e below (s₁.setTop (mkF m 13 #[.val (.ref b), .val (.int p1), .val (.int (4 : Int32)), .val (.long (q &&& (((1 : Int64) <<< ((8 : Int32) &&& 0x3f).toInt64) - (1 : Int64)))), .second, .val (.int (1 : Int32))] [(.ref b), (.long (q &&& (((1 : Int64) <<< ((8 : Int32) &&& 0x3f).toInt64) - (1 : Int64))))])) _
    refine XS.iloadN X0.here hx rfl (hb hby d2_13) rfl ?_
    show Steps p.tables e below (s₁.setTop (mkF m 14 #[.val (.ref b), .val (.int p1), .val (.int (4 : Int32)), .val (.long (q &&& (((1 : Int64) <<< ((8 : Int32) &&& 0x3f).toInt64) - (1 : Int64)))), .second, .val (.int (1 : Int32))] [(.int p1), (.ref b), (.long (q &&& (((1 : Int64) <<< ((8 : Int32) &&& 0x3f).toInt64) - (1 : Int64))))])) _
    refine XS.iload X0.here hx rfl (hb hby d2_14) rfl ?_
    show Steps p.tables e below (s₁.setTop (mkF m 16 #[.val (.ref b), .val (.int p1), .val (.int (4 : Int32)), .val (.long (q &&& (((1 : Int64) <<< ((8 : Int32) &&& 0x3f).toInt64) - (1 : Int64)))), .second, .val (.int (1 : Int32))] [(.int (1 : Int32)), (.int p1), (.ref b), (.long (q &&& (((1 : Int64) <<< ((8 : Int32) &&& 0x3f).toInt64) - (1 : Int64))))])) _
    refine XS.iadd X0.here hx rfl (hb hby d2_16) rfl ?_
    show Steps p.tables e below (s₁.setTop (mkF m 17 #[.val (.ref b), .val (.int p1), .val (.int (4 : Int32)), .val (.long (q &&& (((1 : Int64) <<< ((8 : Int32) &&& 0x3f).toInt64) - (1 : Int64)))), .second, .val (.int (1 : Int32))] [(.int (p1 + (1 : Int32))), (.ref b), (.long (q &&& (((1 : Int64) <<< ((8 : Int32) &&& 0x3f).toInt64) - (1 : Int64))))])) _
    exact kq)
  obtain ⟨cl34, Ar34, q34, S34, M34, H34, Gf34⟩ := id A
  have hi35 : ¬ ((p1 + (1 : Int32)) < 0 ∨ cl34.slots.size ≤ ((p1 + (1 : Int32))).toNatClampNeg) := (inb_of S34 (hat (1 : Int32) (Or.inr (Or.inl rfl))).1)
  have G36 : Go p e below A0 (s₁.setTop (mkF m 17 #[.val (.ref b), .val (.int p1), .val (.int (4 : Int32)), .val (.long (q &&& (((1 : Int64) <<< ((16 : Int32) &&& 0x3f).toInt64) - (1 : Int64)))), .second, .val (.int (2 : Int32))] [(.int (p1 + (2 : Int32))), (.ref b), (.long (q &&& (((1 : Int64) <<< ((16 : Int32) &&& 0x3f).toInt64) - (1 : Int64))))])) := fun tq kq => G33 tq (by
    refine X0.baloadBytes hx (j := (p1 + (1 : Int32))) (v := (.int (own_by q (1 : Int32)))) (by rw [e0]; exact Ar34.1) (State.isArrayOf_alike hZ.alike Ar34.2.1) Ar34.2.2 hi35 (H34.at hi35 (hat (1 : Int32) (Or.inr (Or.inl rfl))).2) (g := (mkF m 17 #[.val (.ref b), .val (.int p1), .val (.int (4 : Int32)), .val (.long (q &&& (((1 : Int64) <<< ((8 : Int32) &&& 0x3f).toInt64) - (1 : Int64)))), .second, .val (.int (1 : Int32))] [(.int (p1 + (1 : Int32))), (.ref b), (.long (q &&& (((1 : Int64) <<< ((8 : Int32) &&& 0x3f).toInt64) - (1 : Int64))))])) rfl rfl (hb hby d2_17) _ ?_
    show Steps p.tables e below (s₁.setTop (mkF m 18 #[.val (.ref b), .val (.int p1), .val (.int (4 : Int32)), .val (.long (q &&& (((1 : Int64) <<< ((8 : Int32) &&& 0x3f).toInt64) - (1 : Int64)))), .second, .val (.int (1 : Int32))] [(.int (own_by q (1 : Int32))), (.long (q &&& (((1 : Int64) <<< ((8 : Int32) &&& 0x3f).toInt64) - (1 : Int64))))])) _
    refine XS.sipush X0.here hx rfl (hb hby d2_18) ?_
    show Steps p.tables e below (s₁.setTop (mkF m 21 #[.val (.ref b), .val (.int p1), .val (.int (4 : Int32)), .val (.long (q &&& (((1 : Int64) <<< ((8 : Int32) &&& 0x3f).toInt64) - (1 : Int64)))), .second, .val (.int (1 : Int32))] [(.int (255 : Int32)), (.int (own_by q (1 : Int32))), (.long (q &&& (((1 : Int64) <<< ((8 : Int32) &&& 0x3f).toInt64) - (1 : Int64))))])) _
    refine XS.iand X0.here hx rfl (hb hby d2_21) rfl ?_
    show Steps p.tables e below (s₁.setTop (mkF m 22 #[.val (.ref b), .val (.int p1), .val (.int (4 : Int32)), .val (.long (q &&& (((1 : Int64) <<< ((8 : Int32) &&& 0x3f).toInt64) - (1 : Int64)))), .second, .val (.int (1 : Int32))] [(.int ((own_by q (1 : Int32)) &&& (255 : Int32))), (.long (q &&& (((1 : Int64) <<< ((8 : Int32) &&& 0x3f).toInt64) - (1 : Int64))))])) _
    refine XS.i2l X0.here hx rfl (hb hby d2_22) rfl ?_
    show Steps p.tables e below (s₁.setTop (mkF m 23 #[.val (.ref b), .val (.int p1), .val (.int (4 : Int32)), .val (.long (q &&& (((1 : Int64) <<< ((8 : Int32) &&& 0x3f).toInt64) - (1 : Int64)))), .second, .val (.int (1 : Int32))] [(.long ((own_by q (1 : Int32)) &&& (255 : Int32)).toInt64), (.long (q &&& (((1 : Int64) <<< ((8 : Int32) &&& 0x3f).toInt64) - (1 : Int64))))])) _
    refine XS.bipush X0.here hx rfl (hb hby d2_23) ?_
    show Steps p.tables e below (s₁.setTop (mkF m 25 #[.val (.ref b), .val (.int p1), .val (.int (4 : Int32)), .val (.long (q &&& (((1 : Int64) <<< ((8 : Int32) &&& 0x3f).toInt64) - (1 : Int64)))), .second, .val (.int (1 : Int32))] [(.int (8 : Int32)), (.long ((own_by q (1 : Int32)) &&& (255 : Int32)).toInt64), (.long (q &&& (((1 : Int64) <<< ((8 : Int32) &&& 0x3f).toInt64) - (1 : Int64))))])) _
    refine XS.iload X0.here hx rfl (hb hby d2_25) rfl ?_
    show Steps p.tables e below (s₁.setTop (mkF m 27 #[.val (.ref b), .val (.int p1), .val (.int (4 : Int32)), .val (.long (q &&& (((1 : Int64) <<< ((8 : Int32) &&& 0x3f).toInt64) - (1 : Int64)))), .second, .val (.int (1 : Int32))] [(.int (1 : Int32)), (.int (8 : Int32)), (.long ((own_by q (1 : Int32)) &&& (255 : Int32)).toInt64), (.long (q &&& (((1 : Int64) <<< ((8 : Int32) &&& 0x3f).toInt64) - (1 : Int64))))])) _
    refine XS.imul X0.here hx rfl (hb hby d2_27) rfl ?_
    show Steps p.tables e below (s₁.setTop (mkF m 28 #[.val (.ref b), .val (.int p1), .val (.int (4 : Int32)), .val (.long (q &&& (((1 : Int64) <<< ((8 : Int32) &&& 0x3f).toInt64) - (1 : Int64)))), .second, .val (.int (1 : Int32))] [(.int ((8 : Int32) * (1 : Int32))), (.long ((own_by q (1 : Int32)) &&& (255 : Int32)).toInt64), (.long (q &&& (((1 : Int64) <<< ((8 : Int32) &&& 0x3f).toInt64) - (1 : Int64))))])) _
    rw [show ((8 : Int32) * (1 : Int32)) = (8 : Int32) from (by decide : ((8 : Int32) * (1 : Int32)) = (8 : Int32))]
    show Steps p.tables e below (s₁.setTop (mkF m 28 #[.val (.ref b), .val (.int p1), .val (.int (4 : Int32)), .val (.long (q &&& (((1 : Int64) <<< ((8 : Int32) &&& 0x3f).toInt64) - (1 : Int64)))), .second, .val (.int (1 : Int32))] [(.int (8 : Int32)), (.long ((own_by q (1 : Int32)) &&& (255 : Int32)).toInt64), (.long (q &&& (((1 : Int64) <<< ((8 : Int32) &&& 0x3f).toInt64) - (1 : Int64))))])) _
    refine XS.lshl X0.here hx rfl (hb hby d2_28) rfl ?_
    show Steps p.tables e below (s₁.setTop (mkF m 29 #[.val (.ref b), .val (.int p1), .val (.int (4 : Int32)), .val (.long (q &&& (((1 : Int64) <<< ((8 : Int32) &&& 0x3f).toInt64) - (1 : Int64)))), .second, .val (.int (1 : Int32))] [(.long (((own_by q (1 : Int32)) &&& (255 : Int32)).toInt64 <<< ((8 : Int32) &&& 0x3f).toInt64)), (.long (q &&& (((1 : Int64) <<< ((8 : Int32) &&& 0x3f).toInt64) - (1 : Int64))))])) _
    refine XS.lor X0.here hx rfl (hb hby d2_29) rfl ?_
    show Steps p.tables e below (s₁.setTop (mkF m 30 #[.val (.ref b), .val (.int p1), .val (.int (4 : Int32)), .val (.long (q &&& (((1 : Int64) <<< ((8 : Int32) &&& 0x3f).toInt64) - (1 : Int64)))), .second, .val (.int (1 : Int32))] [(.long ((q &&& (((1 : Int64) <<< ((8 : Int32) &&& 0x3f).toInt64) - (1 : Int64))) ||| (((own_by q (1 : Int32)) &&& (255 : Int32)).toInt64 <<< ((8 : Int32) &&& 0x3f).toInt64)))])) _
    rw [show ((q &&& (((1 : Int64) <<< ((8 : Int32) &&& 0x3f).toInt64) - (1 : Int64))) ||| (((own_by q (1 : Int32)) &&& (255 : Int32)).toInt64 <<< ((8 : Int32) &&& 0x3f).toInt64)) = (q &&& (((1 : Int64) <<< ((16 : Int32) &&& 0x3f).toInt64) - (1 : Int64))) from own_step_1 q]
    show Steps p.tables e below (s₁.setTop (mkF m 30 #[.val (.ref b), .val (.int p1), .val (.int (4 : Int32)), .val (.long (q &&& (((1 : Int64) <<< ((8 : Int32) &&& 0x3f).toInt64) - (1 : Int64)))), .second, .val (.int (1 : Int32))] [(.long (q &&& (((1 : Int64) <<< ((16 : Int32) &&& 0x3f).toInt64) - (1 : Int64))))])) _
    refine XS.lstoreN X0.here hx rfl (hb hby d2_30) rfl (l' := #[.val (.ref b), .val (.int p1), .val (.int (4 : Int32)), .val (.long (q &&& (((1 : Int64) <<< ((16 : Int32) &&& 0x3f).toInt64) - (1 : Int64)))), .second, .val (.int (1 : Int32))]) rfl ?_
    show Steps p.tables e below (s₁.setTop (mkF m 31 #[.val (.ref b), .val (.int p1), .val (.int (4 : Int32)), .val (.long (q &&& (((1 : Int64) <<< ((16 : Int32) &&& 0x3f).toInt64) - (1 : Int64)))), .second, .val (.int (1 : Int32))] [])) _
    refine XS.iinc X0.here hx rfl (hb hby d2_31) rfl (l' := #[.val (.ref b), .val (.int p1), .val (.int (4 : Int32)), .val (.long (q &&& (((1 : Int64) <<< ((16 : Int32) &&& 0x3f).toInt64) - (1 : Int64)))), .second, .val (.int ((1 : Int32) + (1 : Int32)))]) rfl ?_
    show Steps p.tables e below (s₁.setTop (mkF m 34 #[.val (.ref b), .val (.int p1), .val (.int (4 : Int32)), .val (.long (q &&& (((1 : Int64) <<< ((16 : Int32) &&& 0x3f).toInt64) - (1 : Int64)))), .second, .val (.int ((1 : Int32) + (1 : Int32)))] [])) _
    rw [show ((1 : Int32) + (1 : Int32)) = (2 : Int32) from (by decide : ((1 : Int32) + (1 : Int32)) = (2 : Int32))]
    show Steps p.tables e below (s₁.setTop (mkF m 34 #[.val (.ref b), .val (.int p1), .val (.int (4 : Int32)), .val (.long (q &&& (((1 : Int64) <<< ((16 : Int32) &&& 0x3f).toInt64) - (1 : Int64)))), .second, .val (.int (2 : Int32))] [])) _
    refine XS.goto X0.here hx rfl (pc0 := 34) (pc' := 5) rfl (hb hby d2_34) (by decide) (by decide) ?_
    show Steps p.tables e below (s₁.setTop (mkF m 5 #[.val (.ref b), .val (.int p1), .val (.int (4 : Int32)), .val (.long (q &&& (((1 : Int64) <<< ((16 : Int32) &&& 0x3f).toInt64) - (1 : Int64)))), .second, .val (.int (2 : Int32))] [])) _
    refine XS.iload X0.here hx rfl (hb hby d2_5) rfl ?_
    show Steps p.tables e below (s₁.setTop (mkF m 7 #[.val (.ref b), .val (.int p1), .val (.int (4 : Int32)), .val (.long (q &&& (((1 : Int64) <<< ((16 : Int32) &&& 0x3f).toInt64) - (1 : Int64)))), .second, .val (.int (2 : Int32))] [(.int (2 : Int32))])) _
    refine XS.iloadN X0.here hx rfl (hb hby d2_7) rfl ?_
    show Steps p.tables e below (s₁.setTop (mkF m 8 #[.val (.ref b), .val (.int p1), .val (.int (4 : Int32)), .val (.long (q &&& (((1 : Int64) <<< ((16 : Int32) &&& 0x3f).toInt64) - (1 : Int64)))), .second, .val (.int (2 : Int32))] [(.int (4 : Int32)), (.int (2 : Int32))])) _
    refine XS.icmpNo X0.here hx rfl (hb hby d2_8) rfl (by decide) ?_
    show Steps p.tables e below (s₁.setTop (mkF m 11 #[.val (.ref b), .val (.int p1), .val (.int (4 : Int32)), .val (.long (q &&& (((1 : Int64) <<< ((16 : Int32) &&& 0x3f).toInt64) - (1 : Int64)))), .second, .val (.int (2 : Int32))] [])) _
    refine XS.lloadN X0.here hx rfl (hb hby d2_11) rfl ?_
    show Steps p.tables e below (s₁.setTop (mkF m 12 #[.val (.ref b), .val (.int p1), .val (.int (4 : Int32)), .val (.long (q &&& (((1 : Int64) <<< ((16 : Int32) &&& 0x3f).toInt64) - (1 : Int64)))), .second, .val (.int (2 : Int32))] [(.long (q &&& (((1 : Int64) <<< ((16 : Int32) &&& 0x3f).toInt64) - (1 : Int64))))])) _
    refine XS.aloadN X0.here hx rfl (hb hby d2_12) rfl rfl ?_
    show Steps p.tables e below (s₁.setTop (mkF m 13 #[.val (.ref b), .val (.int p1), .val (.int (4 : Int32)), .val (.long (q &&& (((1 : Int64) <<< ((16 : Int32) &&& 0x3f).toInt64) - (1 : Int64)))), .second, .val (.int (2 : Int32))] [(.ref b), (.long (q &&& (((1 : Int64) <<< ((16 : Int32) &&& 0x3f).toInt64) - (1 : Int64))))])) _
    refine XS.iloadN X0.here hx rfl (hb hby d2_13) rfl ?_
    show Steps p.tables e below (s₁.setTop (mkF m 14 #[.val (.ref b), .val (.int p1), .val (.int (4 : Int32)), .val (.long (q &&& (((1 : Int64) <<< ((16 : Int32) &&& 0x3f).toInt64) - (1 : Int64)))), .second, .val (.int (2 : Int32))] [(.int p1), (.ref b), (.long (q &&& (((1 : Int64) <<< ((16 : Int32) &&& 0x3f).toInt64) - (1 : Int64))))])) _
    refine XS.iload X0.here hx rfl (hb hby d2_14) rfl ?_
    show Steps p.tables e below (s₁.setTop (mkF m 16 #[.val (.ref b), .val (.int p1), .val (.int (4 : Int32)), .val (.long (q &&& (((1 : Int64) <<< ((16 : Int32) &&& 0x3f).toInt64) - (1 : Int64)))), .second, .val (.int (2 : Int32))] [(.int (2 : Int32)), (.int p1), (.ref b), (.long (q &&& (((1 : Int64) <<< ((16 : Int32) &&& 0x3f).toInt64) - (1 : Int64))))])) _
    refine XS.iadd X0.here hx rfl (hb hby d2_16) rfl ?_
    show Steps p.tables e below (s₁.setTop (mkF m 17 #[.val (.ref b), .val (.int p1), .val (.int (4 : Int32)), .val (.long (q &&& (((1 : Int64) <<< ((16 : Int32) &&& 0x3f).toInt64) - (1 : Int64)))), .second, .val (.int (2 : Int32))] [(.int (p1 + (2 : Int32))), (.ref b), (.long (q &&& (((1 : Int64) <<< ((16 : Int32) &&& 0x3f).toInt64) - (1 : Int64))))])) _
    exact kq)
  obtain ⟨cl37, Ar37, q37, S37, M37, H37, Gf37⟩ := id A
  have hi38 : ¬ ((p1 + (2 : Int32)) < 0 ∨ cl37.slots.size ≤ ((p1 + (2 : Int32))).toNatClampNeg) := (inb_of S37 (hat (2 : Int32) (Or.inr (Or.inr (Or.inl rfl)))).1)
  have G39 : Go p e below A0 (s₁.setTop (mkF m 17 #[.val (.ref b), .val (.int p1), .val (.int (4 : Int32)), .val (.long (q &&& (((1 : Int64) <<< ((24 : Int32) &&& 0x3f).toInt64) - (1 : Int64)))), .second, .val (.int (3 : Int32))] [(.int (p1 + (3 : Int32))), (.ref b), (.long (q &&& (((1 : Int64) <<< ((24 : Int32) &&& 0x3f).toInt64) - (1 : Int64))))])) := fun tq kq => G36 tq (by
    refine X0.baloadBytes hx (j := (p1 + (2 : Int32))) (v := (.int (own_by q (2 : Int32)))) (by rw [e0]; exact Ar37.1) (State.isArrayOf_alike hZ.alike Ar37.2.1) Ar37.2.2 hi38 (H37.at hi38 (hat (2 : Int32) (Or.inr (Or.inr (Or.inl rfl)))).2) (g := (mkF m 17 #[.val (.ref b), .val (.int p1), .val (.int (4 : Int32)), .val (.long (q &&& (((1 : Int64) <<< ((16 : Int32) &&& 0x3f).toInt64) - (1 : Int64)))), .second, .val (.int (2 : Int32))] [(.int (p1 + (2 : Int32))), (.ref b), (.long (q &&& (((1 : Int64) <<< ((16 : Int32) &&& 0x3f).toInt64) - (1 : Int64))))])) rfl rfl (hb hby d2_17) _ ?_
    show Steps p.tables e below (s₁.setTop (mkF m 18 #[.val (.ref b), .val (.int p1), .val (.int (4 : Int32)), .val (.long (q &&& (((1 : Int64) <<< ((16 : Int32) &&& 0x3f).toInt64) - (1 : Int64)))), .second, .val (.int (2 : Int32))] [(.int (own_by q (2 : Int32))), (.long (q &&& (((1 : Int64) <<< ((16 : Int32) &&& 0x3f).toInt64) - (1 : Int64))))])) _
    refine XS.sipush X0.here hx rfl (hb hby d2_18) ?_
    show Steps p.tables e below (s₁.setTop (mkF m 21 #[.val (.ref b), .val (.int p1), .val (.int (4 : Int32)), .val (.long (q &&& (((1 : Int64) <<< ((16 : Int32) &&& 0x3f).toInt64) - (1 : Int64)))), .second, .val (.int (2 : Int32))] [(.int (255 : Int32)), (.int (own_by q (2 : Int32))), (.long (q &&& (((1 : Int64) <<< ((16 : Int32) &&& 0x3f).toInt64) - (1 : Int64))))])) _
    refine XS.iand X0.here hx rfl (hb hby d2_21) rfl ?_
    show Steps p.tables e below (s₁.setTop (mkF m 22 #[.val (.ref b), .val (.int p1), .val (.int (4 : Int32)), .val (.long (q &&& (((1 : Int64) <<< ((16 : Int32) &&& 0x3f).toInt64) - (1 : Int64)))), .second, .val (.int (2 : Int32))] [(.int ((own_by q (2 : Int32)) &&& (255 : Int32))), (.long (q &&& (((1 : Int64) <<< ((16 : Int32) &&& 0x3f).toInt64) - (1 : Int64))))])) _
    refine XS.i2l X0.here hx rfl (hb hby d2_22) rfl ?_
    show Steps p.tables e below (s₁.setTop (mkF m 23 #[.val (.ref b), .val (.int p1), .val (.int (4 : Int32)), .val (.long (q &&& (((1 : Int64) <<< ((16 : Int32) &&& 0x3f).toInt64) - (1 : Int64)))), .second, .val (.int (2 : Int32))] [(.long ((own_by q (2 : Int32)) &&& (255 : Int32)).toInt64), (.long (q &&& (((1 : Int64) <<< ((16 : Int32) &&& 0x3f).toInt64) - (1 : Int64))))])) _
    refine XS.bipush X0.here hx rfl (hb hby d2_23) ?_
    show Steps p.tables e below (s₁.setTop (mkF m 25 #[.val (.ref b), .val (.int p1), .val (.int (4 : Int32)), .val (.long (q &&& (((1 : Int64) <<< ((16 : Int32) &&& 0x3f).toInt64) - (1 : Int64)))), .second, .val (.int (2 : Int32))] [(.int (8 : Int32)), (.long ((own_by q (2 : Int32)) &&& (255 : Int32)).toInt64), (.long (q &&& (((1 : Int64) <<< ((16 : Int32) &&& 0x3f).toInt64) - (1 : Int64))))])) _
    refine XS.iload X0.here hx rfl (hb hby d2_25) rfl ?_
    show Steps p.tables e below (s₁.setTop (mkF m 27 #[.val (.ref b), .val (.int p1), .val (.int (4 : Int32)), .val (.long (q &&& (((1 : Int64) <<< ((16 : Int32) &&& 0x3f).toInt64) - (1 : Int64)))), .second, .val (.int (2 : Int32))] [(.int (2 : Int32)), (.int (8 : Int32)), (.long ((own_by q (2 : Int32)) &&& (255 : Int32)).toInt64), (.long (q &&& (((1 : Int64) <<< ((16 : Int32) &&& 0x3f).toInt64) - (1 : Int64))))])) _
    refine XS.imul X0.here hx rfl (hb hby d2_27) rfl ?_
    show Steps p.tables e below (s₁.setTop (mkF m 28 #[.val (.ref b), .val (.int p1), .val (.int (4 : Int32)), .val (.long (q &&& (((1 : Int64) <<< ((16 : Int32) &&& 0x3f).toInt64) - (1 : Int64)))), .second, .val (.int (2 : Int32))] [(.int ((8 : Int32) * (2 : Int32))), (.long ((own_by q (2 : Int32)) &&& (255 : Int32)).toInt64), (.long (q &&& (((1 : Int64) <<< ((16 : Int32) &&& 0x3f).toInt64) - (1 : Int64))))])) _
    rw [show ((8 : Int32) * (2 : Int32)) = (16 : Int32) from (by decide : ((8 : Int32) * (2 : Int32)) = (16 : Int32))]
    show Steps p.tables e below (s₁.setTop (mkF m 28 #[.val (.ref b), .val (.int p1), .val (.int (4 : Int32)), .val (.long (q &&& (((1 : Int64) <<< ((16 : Int32) &&& 0x3f).toInt64) - (1 : Int64)))), .second, .val (.int (2 : Int32))] [(.int (16 : Int32)), (.long ((own_by q (2 : Int32)) &&& (255 : Int32)).toInt64), (.long (q &&& (((1 : Int64) <<< ((16 : Int32) &&& 0x3f).toInt64) - (1 : Int64))))])) _
    refine XS.lshl X0.here hx rfl (hb hby d2_28) rfl ?_
    show Steps p.tables e below (s₁.setTop (mkF m 29 #[.val (.ref b), .val (.int p1), .val (.int (4 : Int32)), .val (.long (q &&& (((1 : Int64) <<< ((16 : Int32) &&& 0x3f).toInt64) - (1 : Int64)))), .second, .val (.int (2 : Int32))] [(.long (((own_by q (2 : Int32)) &&& (255 : Int32)).toInt64 <<< ((16 : Int32) &&& 0x3f).toInt64)), (.long (q &&& (((1 : Int64) <<< ((16 : Int32) &&& 0x3f).toInt64) - (1 : Int64))))])) _
    refine XS.lor X0.here hx rfl (hb hby d2_29) rfl ?_
    show Steps p.tables e below (s₁.setTop (mkF m 30 #[.val (.ref b), .val (.int p1), .val (.int (4 : Int32)), .val (.long (q &&& (((1 : Int64) <<< ((16 : Int32) &&& 0x3f).toInt64) - (1 : Int64)))), .second, .val (.int (2 : Int32))] [(.long ((q &&& (((1 : Int64) <<< ((16 : Int32) &&& 0x3f).toInt64) - (1 : Int64))) ||| (((own_by q (2 : Int32)) &&& (255 : Int32)).toInt64 <<< ((16 : Int32) &&& 0x3f).toInt64)))])) _
    rw [show ((q &&& (((1 : Int64) <<< ((16 : Int32) &&& 0x3f).toInt64) - (1 : Int64))) ||| (((own_by q (2 : Int32)) &&& (255 : Int32)).toInt64 <<< ((16 : Int32) &&& 0x3f).toInt64)) = (q &&& (((1 : Int64) <<< ((24 : Int32) &&& 0x3f).toInt64) - (1 : Int64))) from own_step_2 q]
    show Steps p.tables e below (s₁.setTop (mkF m 30 #[.val (.ref b), .val (.int p1), .val (.int (4 : Int32)), .val (.long (q &&& (((1 : Int64) <<< ((16 : Int32) &&& 0x3f).toInt64) - (1 : Int64)))), .second, .val (.int (2 : Int32))] [(.long (q &&& (((1 : Int64) <<< ((24 : Int32) &&& 0x3f).toInt64) - (1 : Int64))))])) _
    refine XS.lstoreN X0.here hx rfl (hb hby d2_30) rfl (l' := #[.val (.ref b), .val (.int p1), .val (.int (4 : Int32)), .val (.long (q &&& (((1 : Int64) <<< ((24 : Int32) &&& 0x3f).toInt64) - (1 : Int64)))), .second, .val (.int (2 : Int32))]) rfl ?_
    show Steps p.tables e below (s₁.setTop (mkF m 31 #[.val (.ref b), .val (.int p1), .val (.int (4 : Int32)), .val (.long (q &&& (((1 : Int64) <<< ((24 : Int32) &&& 0x3f).toInt64) - (1 : Int64)))), .second, .val (.int (2 : Int32))] [])) _
    refine XS.iinc X0.here hx rfl (hb hby d2_31) rfl (l' := #[.val (.ref b), .val (.int p1), .val (.int (4 : Int32)), .val (.long (q &&& (((1 : Int64) <<< ((24 : Int32) &&& 0x3f).toInt64) - (1 : Int64)))), .second, .val (.int ((2 : Int32) + (1 : Int32)))]) rfl ?_
    show Steps p.tables e below (s₁.setTop (mkF m 34 #[.val (.ref b), .val (.int p1), .val (.int (4 : Int32)), .val (.long (q &&& (((1 : Int64) <<< ((24 : Int32) &&& 0x3f).toInt64) - (1 : Int64)))), .second, .val (.int ((2 : Int32) + (1 : Int32)))] [])) _
    rw [show ((2 : Int32) + (1 : Int32)) = (3 : Int32) from (by decide : ((2 : Int32) + (1 : Int32)) = (3 : Int32))]
    show Steps p.tables e below (s₁.setTop (mkF m 34 #[.val (.ref b), .val (.int p1), .val (.int (4 : Int32)), .val (.long (q &&& (((1 : Int64) <<< ((24 : Int32) &&& 0x3f).toInt64) - (1 : Int64)))), .second, .val (.int (3 : Int32))] [])) _
    refine XS.goto X0.here hx rfl (pc0 := 34) (pc' := 5) rfl (hb hby d2_34) (by decide) (by decide) ?_
    show Steps p.tables e below (s₁.setTop (mkF m 5 #[.val (.ref b), .val (.int p1), .val (.int (4 : Int32)), .val (.long (q &&& (((1 : Int64) <<< ((24 : Int32) &&& 0x3f).toInt64) - (1 : Int64)))), .second, .val (.int (3 : Int32))] [])) _
    refine XS.iload X0.here hx rfl (hb hby d2_5) rfl ?_
    show Steps p.tables e below (s₁.setTop (mkF m 7 #[.val (.ref b), .val (.int p1), .val (.int (4 : Int32)), .val (.long (q &&& (((1 : Int64) <<< ((24 : Int32) &&& 0x3f).toInt64) - (1 : Int64)))), .second, .val (.int (3 : Int32))] [(.int (3 : Int32))])) _
    refine XS.iloadN X0.here hx rfl (hb hby d2_7) rfl ?_
    show Steps p.tables e below (s₁.setTop (mkF m 8 #[.val (.ref b), .val (.int p1), .val (.int (4 : Int32)), .val (.long (q &&& (((1 : Int64) <<< ((24 : Int32) &&& 0x3f).toInt64) - (1 : Int64)))), .second, .val (.int (3 : Int32))] [(.int (4 : Int32)), (.int (3 : Int32))])) _
    refine XS.icmpNo X0.here hx rfl (hb hby d2_8) rfl (by decide) ?_
    show Steps p.tables e below (s₁.setTop (mkF m 11 #[.val (.ref b), .val (.int p1), .val (.int (4 : Int32)), .val (.long (q &&& (((1 : Int64) <<< ((24 : Int32) &&& 0x3f).toInt64) - (1 : Int64)))), .second, .val (.int (3 : Int32))] [])) _
    refine XS.lloadN X0.here hx rfl (hb hby d2_11) rfl ?_
    show Steps p.tables e below (s₁.setTop (mkF m 12 #[.val (.ref b), .val (.int p1), .val (.int (4 : Int32)), .val (.long (q &&& (((1 : Int64) <<< ((24 : Int32) &&& 0x3f).toInt64) - (1 : Int64)))), .second, .val (.int (3 : Int32))] [(.long (q &&& (((1 : Int64) <<< ((24 : Int32) &&& 0x3f).toInt64) - (1 : Int64))))])) _
    refine XS.aloadN X0.here hx rfl (hb hby d2_12) rfl rfl ?_
    show Steps p.tables e below (s₁.setTop (mkF m 13 #[.val (.ref b), .val (.int p1), .val (.int (4 : Int32)), .val (.long (q &&& (((1 : Int64) <<< ((24 : Int32) &&& 0x3f).toInt64) - (1 : Int64)))), .second, .val (.int (3 : Int32))] [(.ref b), (.long (q &&& (((1 : Int64) <<< ((24 : Int32) &&& 0x3f).toInt64) - (1 : Int64))))])) _
    refine XS.iloadN X0.here hx rfl (hb hby d2_13) rfl ?_
    show Steps p.tables e below (s₁.setTop (mkF m 14 #[.val (.ref b), .val (.int p1), .val (.int (4 : Int32)), .val (.long (q &&& (((1 : Int64) <<< ((24 : Int32) &&& 0x3f).toInt64) - (1 : Int64)))), .second, .val (.int (3 : Int32))] [(.int p1), (.ref b), (.long (q &&& (((1 : Int64) <<< ((24 : Int32) &&& 0x3f).toInt64) - (1 : Int64))))])) _
    refine XS.iload X0.here hx rfl (hb hby d2_14) rfl ?_
    show Steps p.tables e below (s₁.setTop (mkF m 16 #[.val (.ref b), .val (.int p1), .val (.int (4 : Int32)), .val (.long (q &&& (((1 : Int64) <<< ((24 : Int32) &&& 0x3f).toInt64) - (1 : Int64)))), .second, .val (.int (3 : Int32))] [(.int (3 : Int32)), (.int p1), (.ref b), (.long (q &&& (((1 : Int64) <<< ((24 : Int32) &&& 0x3f).toInt64) - (1 : Int64))))])) _
    refine XS.iadd X0.here hx rfl (hb hby d2_16) rfl ?_
    show Steps p.tables e below (s₁.setTop (mkF m 17 #[.val (.ref b), .val (.int p1), .val (.int (4 : Int32)), .val (.long (q &&& (((1 : Int64) <<< ((24 : Int32) &&& 0x3f).toInt64) - (1 : Int64)))), .second, .val (.int (3 : Int32))] [(.int (p1 + (3 : Int32))), (.ref b), (.long (q &&& (((1 : Int64) <<< ((24 : Int32) &&& 0x3f).toInt64) - (1 : Int64))))])) _
    exact kq)
  obtain ⟨cl40, Ar40, q40, S40, M40, H40, Gf40⟩ := id A
  have hi41 : ¬ ((p1 + (3 : Int32)) < 0 ∨ cl40.slots.size ≤ ((p1 + (3 : Int32))).toNatClampNeg) := (inb_of S40 (hat (3 : Int32) (Or.inr (Or.inr (Or.inr (Or.inl rfl))))).1)
  have G42 : Go p e below A0 (s₁.setTop (mkF m 38 #[.val (.ref b), .val (.int p1), .val (.int (4 : Int32)), .val (.long (q &&& (((1 : Int64) <<< ((32 : Int32) &&& 0x3f).toInt64) - (1 : Int64)))), .second, .val (.int (4 : Int32))] [(.long (q &&& (((1 : Int64) <<< ((32 : Int32) &&& 0x3f).toInt64) - (1 : Int64))))])) := fun tq kq => G39 tq (by
    refine X0.baloadBytes hx (j := (p1 + (3 : Int32))) (v := (.int (own_by q (3 : Int32)))) (by rw [e0]; exact Ar40.1) (State.isArrayOf_alike hZ.alike Ar40.2.1) Ar40.2.2 hi41 (H40.at hi41 (hat (3 : Int32) (Or.inr (Or.inr (Or.inr (Or.inl rfl))))).2) (g := (mkF m 17 #[.val (.ref b), .val (.int p1), .val (.int (4 : Int32)), .val (.long (q &&& (((1 : Int64) <<< ((24 : Int32) &&& 0x3f).toInt64) - (1 : Int64)))), .second, .val (.int (3 : Int32))] [(.int (p1 + (3 : Int32))), (.ref b), (.long (q &&& (((1 : Int64) <<< ((24 : Int32) &&& 0x3f).toInt64) - (1 : Int64))))])) rfl rfl (hb hby d2_17) _ ?_
    show Steps p.tables e below (s₁.setTop (mkF m 18 #[.val (.ref b), .val (.int p1), .val (.int (4 : Int32)), .val (.long (q &&& (((1 : Int64) <<< ((24 : Int32) &&& 0x3f).toInt64) - (1 : Int64)))), .second, .val (.int (3 : Int32))] [(.int (own_by q (3 : Int32))), (.long (q &&& (((1 : Int64) <<< ((24 : Int32) &&& 0x3f).toInt64) - (1 : Int64))))])) _
    refine XS.sipush X0.here hx rfl (hb hby d2_18) ?_
    show Steps p.tables e below (s₁.setTop (mkF m 21 #[.val (.ref b), .val (.int p1), .val (.int (4 : Int32)), .val (.long (q &&& (((1 : Int64) <<< ((24 : Int32) &&& 0x3f).toInt64) - (1 : Int64)))), .second, .val (.int (3 : Int32))] [(.int (255 : Int32)), (.int (own_by q (3 : Int32))), (.long (q &&& (((1 : Int64) <<< ((24 : Int32) &&& 0x3f).toInt64) - (1 : Int64))))])) _
    refine XS.iand X0.here hx rfl (hb hby d2_21) rfl ?_
    show Steps p.tables e below (s₁.setTop (mkF m 22 #[.val (.ref b), .val (.int p1), .val (.int (4 : Int32)), .val (.long (q &&& (((1 : Int64) <<< ((24 : Int32) &&& 0x3f).toInt64) - (1 : Int64)))), .second, .val (.int (3 : Int32))] [(.int ((own_by q (3 : Int32)) &&& (255 : Int32))), (.long (q &&& (((1 : Int64) <<< ((24 : Int32) &&& 0x3f).toInt64) - (1 : Int64))))])) _
    refine XS.i2l X0.here hx rfl (hb hby d2_22) rfl ?_
    show Steps p.tables e below (s₁.setTop (mkF m 23 #[.val (.ref b), .val (.int p1), .val (.int (4 : Int32)), .val (.long (q &&& (((1 : Int64) <<< ((24 : Int32) &&& 0x3f).toInt64) - (1 : Int64)))), .second, .val (.int (3 : Int32))] [(.long ((own_by q (3 : Int32)) &&& (255 : Int32)).toInt64), (.long (q &&& (((1 : Int64) <<< ((24 : Int32) &&& 0x3f).toInt64) - (1 : Int64))))])) _
    refine XS.bipush X0.here hx rfl (hb hby d2_23) ?_
    show Steps p.tables e below (s₁.setTop (mkF m 25 #[.val (.ref b), .val (.int p1), .val (.int (4 : Int32)), .val (.long (q &&& (((1 : Int64) <<< ((24 : Int32) &&& 0x3f).toInt64) - (1 : Int64)))), .second, .val (.int (3 : Int32))] [(.int (8 : Int32)), (.long ((own_by q (3 : Int32)) &&& (255 : Int32)).toInt64), (.long (q &&& (((1 : Int64) <<< ((24 : Int32) &&& 0x3f).toInt64) - (1 : Int64))))])) _
    refine XS.iload X0.here hx rfl (hb hby d2_25) rfl ?_
    show Steps p.tables e below (s₁.setTop (mkF m 27 #[.val (.ref b), .val (.int p1), .val (.int (4 : Int32)), .val (.long (q &&& (((1 : Int64) <<< ((24 : Int32) &&& 0x3f).toInt64) - (1 : Int64)))), .second, .val (.int (3 : Int32))] [(.int (3 : Int32)), (.int (8 : Int32)), (.long ((own_by q (3 : Int32)) &&& (255 : Int32)).toInt64), (.long (q &&& (((1 : Int64) <<< ((24 : Int32) &&& 0x3f).toInt64) - (1 : Int64))))])) _
    refine XS.imul X0.here hx rfl (hb hby d2_27) rfl ?_
    show Steps p.tables e below (s₁.setTop (mkF m 28 #[.val (.ref b), .val (.int p1), .val (.int (4 : Int32)), .val (.long (q &&& (((1 : Int64) <<< ((24 : Int32) &&& 0x3f).toInt64) - (1 : Int64)))), .second, .val (.int (3 : Int32))] [(.int ((8 : Int32) * (3 : Int32))), (.long ((own_by q (3 : Int32)) &&& (255 : Int32)).toInt64), (.long (q &&& (((1 : Int64) <<< ((24 : Int32) &&& 0x3f).toInt64) - (1 : Int64))))])) _
    rw [show ((8 : Int32) * (3 : Int32)) = (24 : Int32) from (by decide : ((8 : Int32) * (3 : Int32)) = (24 : Int32))]
    show Steps p.tables e below (s₁.setTop (mkF m 28 #[.val (.ref b), .val (.int p1), .val (.int (4 : Int32)), .val (.long (q &&& (((1 : Int64) <<< ((24 : Int32) &&& 0x3f).toInt64) - (1 : Int64)))), .second, .val (.int (3 : Int32))] [(.int (24 : Int32)), (.long ((own_by q (3 : Int32)) &&& (255 : Int32)).toInt64), (.long (q &&& (((1 : Int64) <<< ((24 : Int32) &&& 0x3f).toInt64) - (1 : Int64))))])) _
    refine XS.lshl X0.here hx rfl (hb hby d2_28) rfl ?_
    show Steps p.tables e below (s₁.setTop (mkF m 29 #[.val (.ref b), .val (.int p1), .val (.int (4 : Int32)), .val (.long (q &&& (((1 : Int64) <<< ((24 : Int32) &&& 0x3f).toInt64) - (1 : Int64)))), .second, .val (.int (3 : Int32))] [(.long (((own_by q (3 : Int32)) &&& (255 : Int32)).toInt64 <<< ((24 : Int32) &&& 0x3f).toInt64)), (.long (q &&& (((1 : Int64) <<< ((24 : Int32) &&& 0x3f).toInt64) - (1 : Int64))))])) _
    refine XS.lor X0.here hx rfl (hb hby d2_29) rfl ?_
    show Steps p.tables e below (s₁.setTop (mkF m 30 #[.val (.ref b), .val (.int p1), .val (.int (4 : Int32)), .val (.long (q &&& (((1 : Int64) <<< ((24 : Int32) &&& 0x3f).toInt64) - (1 : Int64)))), .second, .val (.int (3 : Int32))] [(.long ((q &&& (((1 : Int64) <<< ((24 : Int32) &&& 0x3f).toInt64) - (1 : Int64))) ||| (((own_by q (3 : Int32)) &&& (255 : Int32)).toInt64 <<< ((24 : Int32) &&& 0x3f).toInt64)))])) _
    rw [show ((q &&& (((1 : Int64) <<< ((24 : Int32) &&& 0x3f).toInt64) - (1 : Int64))) ||| (((own_by q (3 : Int32)) &&& (255 : Int32)).toInt64 <<< ((24 : Int32) &&& 0x3f).toInt64)) = (q &&& (((1 : Int64) <<< ((32 : Int32) &&& 0x3f).toInt64) - (1 : Int64))) from own_step_3 q]
    show Steps p.tables e below (s₁.setTop (mkF m 30 #[.val (.ref b), .val (.int p1), .val (.int (4 : Int32)), .val (.long (q &&& (((1 : Int64) <<< ((24 : Int32) &&& 0x3f).toInt64) - (1 : Int64)))), .second, .val (.int (3 : Int32))] [(.long (q &&& (((1 : Int64) <<< ((32 : Int32) &&& 0x3f).toInt64) - (1 : Int64))))])) _
    refine XS.lstoreN X0.here hx rfl (hb hby d2_30) rfl (l' := #[.val (.ref b), .val (.int p1), .val (.int (4 : Int32)), .val (.long (q &&& (((1 : Int64) <<< ((32 : Int32) &&& 0x3f).toInt64) - (1 : Int64)))), .second, .val (.int (3 : Int32))]) rfl ?_
    show Steps p.tables e below (s₁.setTop (mkF m 31 #[.val (.ref b), .val (.int p1), .val (.int (4 : Int32)), .val (.long (q &&& (((1 : Int64) <<< ((32 : Int32) &&& 0x3f).toInt64) - (1 : Int64)))), .second, .val (.int (3 : Int32))] [])) _
    refine XS.iinc X0.here hx rfl (hb hby d2_31) rfl (l' := #[.val (.ref b), .val (.int p1), .val (.int (4 : Int32)), .val (.long (q &&& (((1 : Int64) <<< ((32 : Int32) &&& 0x3f).toInt64) - (1 : Int64)))), .second, .val (.int ((3 : Int32) + (1 : Int32)))]) rfl ?_
    show Steps p.tables e below (s₁.setTop (mkF m 34 #[.val (.ref b), .val (.int p1), .val (.int (4 : Int32)), .val (.long (q &&& (((1 : Int64) <<< ((32 : Int32) &&& 0x3f).toInt64) - (1 : Int64)))), .second, .val (.int ((3 : Int32) + (1 : Int32)))] [])) _
    rw [show ((3 : Int32) + (1 : Int32)) = (4 : Int32) from (by decide : ((3 : Int32) + (1 : Int32)) = (4 : Int32))]
    show Steps p.tables e below (s₁.setTop (mkF m 34 #[.val (.ref b), .val (.int p1), .val (.int (4 : Int32)), .val (.long (q &&& (((1 : Int64) <<< ((32 : Int32) &&& 0x3f).toInt64) - (1 : Int64)))), .second, .val (.int (4 : Int32))] [])) _
    refine XS.goto X0.here hx rfl (pc0 := 34) (pc' := 5) rfl (hb hby d2_34) (by decide) (by decide) ?_
    show Steps p.tables e below (s₁.setTop (mkF m 5 #[.val (.ref b), .val (.int p1), .val (.int (4 : Int32)), .val (.long (q &&& (((1 : Int64) <<< ((32 : Int32) &&& 0x3f).toInt64) - (1 : Int64)))), .second, .val (.int (4 : Int32))] [])) _
    refine XS.iload X0.here hx rfl (hb hby d2_5) rfl ?_
    show Steps p.tables e below (s₁.setTop (mkF m 7 #[.val (.ref b), .val (.int p1), .val (.int (4 : Int32)), .val (.long (q &&& (((1 : Int64) <<< ((32 : Int32) &&& 0x3f).toInt64) - (1 : Int64)))), .second, .val (.int (4 : Int32))] [(.int (4 : Int32))])) _
    refine XS.iloadN X0.here hx rfl (hb hby d2_7) rfl ?_
    show Steps p.tables e below (s₁.setTop (mkF m 8 #[.val (.ref b), .val (.int p1), .val (.int (4 : Int32)), .val (.long (q &&& (((1 : Int64) <<< ((32 : Int32) &&& 0x3f).toInt64) - (1 : Int64)))), .second, .val (.int (4 : Int32))] [(.int (4 : Int32)), (.int (4 : Int32))])) _
    refine XS.icmpYes X0.here hx rfl (pc0 := 8) (pc' := 37) rfl (hb hby d2_8) rfl (by decide) (by decide) (by decide) ?_
    show Steps p.tables e below (s₁.setTop (mkF m 37 #[.val (.ref b), .val (.int p1), .val (.int (4 : Int32)), .val (.long (q &&& (((1 : Int64) <<< ((32 : Int32) &&& 0x3f).toInt64) - (1 : Int64)))), .second, .val (.int (4 : Int32))] [])) _
    refine XS.lloadN X0.here hx rfl (hb hby d2_37) rfl ?_
    show Steps p.tables e below (s₁.setTop (mkF m 38 #[.val (.ref b), .val (.int p1), .val (.int (4 : Int32)), .val (.long (q &&& (((1 : Int64) <<< ((32 : Int32) &&& 0x3f).toInt64) - (1 : Int64)))), .second, .val (.int (4 : Int32))] [(.long (q &&& (((1 : Int64) <<< ((32 : Int32) &&& 0x3f).toInt64) - (1 : Int64))))])) _
    exact kq)
  obtain ⟨fs, hr, hrun, hended, hW, hsame⟩ := X0.leave (v := some (.long (q &&& (((1 : Int64) <<< ((32 : Int32) &&& 0x3f).toInt64) - (1 : Int64))))) (fun h => by rw [Bd.returns] at h; cases h)
  refine ⟨_, _, (by rw [← hA0]; exact G42 _ (retOut X0 hx (t := .long) Bd.returns rfl (Or.inr (Or.inl ⟨rfl, rfl, _, rfl⟩)) (hb hby d2_38) hr)), hrun, hended, _, _, rfl, ?_, ⟨_, rfl⟩, hW, hsame.mono (by decide) (by decide)⟩
  exact ⟨rfl, N0, e0⟩
set_option maxRecDepth 65536 in
set_option maxHeartbeats 40000000 in
theorem rm2_5 (l : Launch) (Z : State) (a0 : Array Value) (hw : ∀ d ∈ tables_1, d.before a0 Z = true) (ws : List Jvm.Cond) (b : Addr) (p1 : Int32) (q : Int64) (kb : ClassId) (vs : List Value) (h0 : Heap) (n0 : Nat) (Z0 : n0 ≤ h0.size) (A : Arv Z h0 b kb .byte (12 : Int32) vs (.int (0 : Int32))) (hat : own_Hat vs p1 q) :
    MetFree l (⟨"com/example/ledgerline/ledgerline/format/GrowingBytes", "littleEndian", "([BII)J"⟩ : MethodName) (head1 (Jvm.Cond.code (⟨"com/example/ledgerline/ledgerline/format/GrowingBytes", "littleEndian", "([BII)J"⟩ : MethodName) prog_17_method_11_code 6 (some .long) :: ws) ({ frames := 0, cells := 0, slots := 0, locals := 0 } : Room)) (fun aa UU => aa = #[(.ref b), (.int p1), (.int (5 : Int32))] ∧ Z.Warmed39 UU.vm ∧ UU.heap = h0) (fun _ _ _ _ _ => True) (fun _ UU oo U' => ∃ v L, oo = .returned v ∧ Qr (.long (q &&& (((1 : Int64) <<< ((40 : Int32) &&& 0x3f).toInt64) - (1 : Int64)))) h0 n0 v U'.heap L ∧ FrameEnd UU oo U' L ({ frames := 0, cells := 0, slots := 0, locals := 0 } : Room).cells ({ frames := 0, cells := 0, slots := 0, locals := 0 } : Room).slots) := by
  refine MetFree.of_bodySF (plainFor_of_name pn_1) hisR ?_
  intro p e s m args below meth c s₁ Bd hml0 hP hK
  obtain ⟨rfl, hZ, hh⟩ := hP
  have hx := Bd.exec
  have hby := Bd.bytes
  have hml : c.maxLocals = 6 := hml0
  have hown : s.vm.findClass "com/example/ledgerline/ledgerline/format/GrowingBytes" = some m.cls := findClass_of_methodNamed Bd.named
  have hnm := (name_of_methodNamed Bd.named Bd.method).1
  have X0 : Stand p l e ({ frames := 0, cells := 0, slots := 0, locals := 0 } : Room) s m #[(.ref b), (.int p1), (.int (5 : Int32))] below meth c s₁ [] 0 0 := Stand.of_body Bd
  have e0 : s₁.heap = h0 := by rw [← hh, Bd.state]; rfl
  have N0 := Fr.nil n0
  obtain ⟨A0, hA0⟩ : ∃ A, A = s₁.setTop (entryFrame m #[(.ref b), (.int p1), (.int (5 : Int32))] 6) := ⟨_, rfl⟩
  have G0 : Go p e below A0 (s₁.setTop (mkF m 0 #[.val (.ref b), .val (.int p1), .val (.int (5 : Int32)), .unset, .unset, .unset] [])) := fun tq kq => by rw [hA0]; exact castTop (ef_rm2_5 m b p1 (5 : Int32)) kq
  have G43 : Go p e below A0 (s₁.setTop (mkF m 17 #[.val (.ref b), .val (.int p1), .val (.int (5 : Int32)), .val (.long (0 : Int64)), .second, .val (.int (0 : Int32))] [(.int (p1 + (0 : Int32))), (.ref b), (.long (0 : Int64))])) := fun tq kq => G0 tq (by
    refine XS.lconst X0.here hx rfl (hb hby d2_0) ?_
    show Steps p.tables e below (s₁.setTop (mkF m 1 #[.val (.ref b), .val (.int p1), .val (.int (5 : Int32)), .unset, .unset, .unset] [(.long (0 : Int64))])) _
    refine XS.lstoreN X0.here hx rfl (hb hby d2_1) rfl (l' := #[.val (.ref b), .val (.int p1), .val (.int (5 : Int32)), .val (.long (0 : Int64)), .second, .unset]) rfl ?_
    show Steps p.tables e below (s₁.setTop (mkF m 2 #[.val (.ref b), .val (.int p1), .val (.int (5 : Int32)), .val (.long (0 : Int64)), .second, .unset] [])) _
    refine XS.iconst X0.here hx rfl (hb hby d2_2) ?_
    show Steps p.tables e below (s₁.setTop (mkF m 3 #[.val (.ref b), .val (.int p1), .val (.int (5 : Int32)), .val (.long (0 : Int64)), .second, .unset] [(.int (0 : Int32))])) _
    refine XS.istore X0.here hx rfl (hb hby d2_3) rfl (l' := #[.val (.ref b), .val (.int p1), .val (.int (5 : Int32)), .val (.long (0 : Int64)), .second, .val (.int (0 : Int32))]) rfl ?_
    show Steps p.tables e below (s₁.setTop (mkF m 5 #[.val (.ref b), .val (.int p1), .val (.int (5 : Int32)), .val (.long (0 : Int64)), .second, .val (.int (0 : Int32))] [])) _
    refine XS.iload X0.here hx rfl (hb hby d2_5) rfl ?_
    show Steps p.tables e below (s₁.setTop (mkF m 7 #[.val (.ref b), .val (.int p1), .val (.int (5 : Int32)), .val (.long (0 : Int64)), .second, .val (.int (0 : Int32))] [(.int (0 : Int32))])) _
    refine XS.iloadN X0.here hx rfl (hb hby d2_7) rfl ?_
    show Steps p.tables e below (s₁.setTop (mkF m 8 #[.val (.ref b), .val (.int p1), .val (.int (5 : Int32)), .val (.long (0 : Int64)), .second, .val (.int (0 : Int32))] [(.int (5 : Int32)), (.int (0 : Int32))])) _
    refine XS.icmpNo X0.here hx rfl (hb hby d2_8) rfl (by decide) ?_
    show Steps p.tables e below (s₁.setTop (mkF m 11 #[.val (.ref b), .val (.int p1), .val (.int (5 : Int32)), .val (.long (0 : Int64)), .second, .val (.int (0 : Int32))] [])) _
    refine XS.lloadN X0.here hx rfl (hb hby d2_11) rfl ?_
    show Steps p.tables e below (s₁.setTop (mkF m 12 #[.val (.ref b), .val (.int p1), .val (.int (5 : Int32)), .val (.long (0 : Int64)), .second, .val (.int (0 : Int32))] [(.long (0 : Int64))])) _
    refine XS.aloadN X0.here hx rfl (hb hby d2_12) rfl rfl ?_
    show Steps p.tables e below (s₁.setTop (mkF m 13 #[.val (.ref b), .val (.int p1), .val (.int (5 : Int32)), .val (.long (0 : Int64)), .second, .val (.int (0 : Int32))] [(.ref b), (.long (0 : Int64))])) _
    refine XS.iloadN X0.here hx rfl (hb hby d2_13) rfl ?_
    show Steps p.tables e below (s₁.setTop (mkF m 14 #[.val (.ref b), .val (.int p1), .val (.int (5 : Int32)), .val (.long (0 : Int64)), .second, .val (.int (0 : Int32))] [(.int p1), (.ref b), (.long (0 : Int64))])) _
    refine XS.iload X0.here hx rfl (hb hby d2_14) rfl ?_
    show Steps p.tables e below (s₁.setTop (mkF m 16 #[.val (.ref b), .val (.int p1), .val (.int (5 : Int32)), .val (.long (0 : Int64)), .second, .val (.int (0 : Int32))] [(.int (0 : Int32)), (.int p1), (.ref b), (.long (0 : Int64))])) _
    refine XS.iadd X0.here hx rfl (hb hby d2_16) rfl ?_
    show Steps p.tables e below (s₁.setTop (mkF m 17 #[.val (.ref b), .val (.int p1), .val (.int (5 : Int32)), .val (.long (0 : Int64)), .second, .val (.int (0 : Int32))] [(.int (p1 + (0 : Int32))), (.ref b), (.long (0 : Int64))])) _
    exact kq)
  obtain ⟨cl44, Ar44, q44, S44, M44, H44, Gf44⟩ := id A
  have hi45 : ¬ ((p1 + (0 : Int32)) < 0 ∨ cl44.slots.size ≤ ((p1 + (0 : Int32))).toNatClampNeg) := (inb_of S44 (hat (0 : Int32) (Or.inl rfl)).1)
  have G46 : Go p e below A0 (s₁.setTop (mkF m 17 #[.val (.ref b), .val (.int p1), .val (.int (5 : Int32)), .val (.long (q &&& (((1 : Int64) <<< ((8 : Int32) &&& 0x3f).toInt64) - (1 : Int64)))), .second, .val (.int (1 : Int32))] [(.int (p1 + (1 : Int32))), (.ref b), (.long (q &&& (((1 : Int64) <<< ((8 : Int32) &&& 0x3f).toInt64) - (1 : Int64))))])) := fun tq kq => G43 tq (by
    refine X0.baloadBytes hx (j := (p1 + (0 : Int32))) (v := (.int (own_by q (0 : Int32)))) (by rw [e0]; exact Ar44.1) (State.isArrayOf_alike hZ.alike Ar44.2.1) Ar44.2.2 hi45 (H44.at hi45 (hat (0 : Int32) (Or.inl rfl)).2) (g := (mkF m 17 #[.val (.ref b), .val (.int p1), .val (.int (5 : Int32)), .val (.long (0 : Int64)), .second, .val (.int (0 : Int32))] [(.int (p1 + (0 : Int32))), (.ref b), (.long (0 : Int64))])) rfl rfl (hb hby d2_17) _ ?_
    show Steps p.tables e below (s₁.setTop (mkF m 18 #[.val (.ref b), .val (.int p1), .val (.int (5 : Int32)), .val (.long (0 : Int64)), .second, .val (.int (0 : Int32))] [(.int (own_by q (0 : Int32))), (.long (0 : Int64))])) _
    refine XS.sipush X0.here hx rfl (hb hby d2_18) ?_
    show Steps p.tables e below (s₁.setTop (mkF m 21 #[.val (.ref b), .val (.int p1), .val (.int (5 : Int32)), .val (.long (0 : Int64)), .second, .val (.int (0 : Int32))] [(.int (255 : Int32)), (.int (own_by q (0 : Int32))), (.long (0 : Int64))])) _
    refine XS.iand X0.here hx rfl (hb hby d2_21) rfl ?_
    show Steps p.tables e below (s₁.setTop (mkF m 22 #[.val (.ref b), .val (.int p1), .val (.int (5 : Int32)), .val (.long (0 : Int64)), .second, .val (.int (0 : Int32))] [(.int ((own_by q (0 : Int32)) &&& (255 : Int32))), (.long (0 : Int64))])) _
    refine XS.i2l X0.here hx rfl (hb hby d2_22) rfl ?_
    show Steps p.tables e below (s₁.setTop (mkF m 23 #[.val (.ref b), .val (.int p1), .val (.int (5 : Int32)), .val (.long (0 : Int64)), .second, .val (.int (0 : Int32))] [(.long ((own_by q (0 : Int32)) &&& (255 : Int32)).toInt64), (.long (0 : Int64))])) _
    refine XS.bipush X0.here hx rfl (hb hby d2_23) ?_
    show Steps p.tables e below (s₁.setTop (mkF m 25 #[.val (.ref b), .val (.int p1), .val (.int (5 : Int32)), .val (.long (0 : Int64)), .second, .val (.int (0 : Int32))] [(.int (8 : Int32)), (.long ((own_by q (0 : Int32)) &&& (255 : Int32)).toInt64), (.long (0 : Int64))])) _
    refine XS.iload X0.here hx rfl (hb hby d2_25) rfl ?_
    show Steps p.tables e below (s₁.setTop (mkF m 27 #[.val (.ref b), .val (.int p1), .val (.int (5 : Int32)), .val (.long (0 : Int64)), .second, .val (.int (0 : Int32))] [(.int (0 : Int32)), (.int (8 : Int32)), (.long ((own_by q (0 : Int32)) &&& (255 : Int32)).toInt64), (.long (0 : Int64))])) _
    refine XS.imul X0.here hx rfl (hb hby d2_27) rfl ?_
    show Steps p.tables e below (s₁.setTop (mkF m 28 #[.val (.ref b), .val (.int p1), .val (.int (5 : Int32)), .val (.long (0 : Int64)), .second, .val (.int (0 : Int32))] [(.int ((8 : Int32) * (0 : Int32))), (.long ((own_by q (0 : Int32)) &&& (255 : Int32)).toInt64), (.long (0 : Int64))])) _
    rw [show ((8 : Int32) * (0 : Int32)) = (0 : Int32) from (by decide : ((8 : Int32) * (0 : Int32)) = (0 : Int32))]
    show Steps p.tables e below (s₁.setTop (mkF m 28 #[.val (.ref b), .val (.int p1), .val (.int (5 : Int32)), .val (.long (0 : Int64)), .second, .val (.int (0 : Int32))] [(.int (0 : Int32)), (.long ((own_by q (0 : Int32)) &&& (255 : Int32)).toInt64), (.long (0 : Int64))])) _
    refine XS.lshl X0.here hx rfl (hb hby d2_28) rfl ?_
    show Steps p.tables e below (s₁.setTop (mkF m 29 #[.val (.ref b), .val (.int p1), .val (.int (5 : Int32)), .val (.long (0 : Int64)), .second, .val (.int (0 : Int32))] [(.long (((own_by q (0 : Int32)) &&& (255 : Int32)).toInt64 <<< ((0 : Int32) &&& 0x3f).toInt64)), (.long (0 : Int64))])) _
    refine XS.lor X0.here hx rfl (hb hby d2_29) rfl ?_
    show Steps p.tables e below (s₁.setTop (mkF m 30 #[.val (.ref b), .val (.int p1), .val (.int (5 : Int32)), .val (.long (0 : Int64)), .second, .val (.int (0 : Int32))] [(.long ((0 : Int64) ||| (((own_by q (0 : Int32)) &&& (255 : Int32)).toInt64 <<< ((0 : Int32) &&& 0x3f).toInt64)))])) _
    rw [show ((0 : Int64) ||| (((own_by q (0 : Int32)) &&& (255 : Int32)).toInt64 <<< ((0 : Int32) &&& 0x3f).toInt64)) = (q &&& (((1 : Int64) <<< ((8 : Int32) &&& 0x3f).toInt64) - (1 : Int64))) from own_step_0 q]
    show Steps p.tables e below (s₁.setTop (mkF m 30 #[.val (.ref b), .val (.int p1), .val (.int (5 : Int32)), .val (.long (0 : Int64)), .second, .val (.int (0 : Int32))] [(.long (q &&& (((1 : Int64) <<< ((8 : Int32) &&& 0x3f).toInt64) - (1 : Int64))))])) _
    refine XS.lstoreN X0.here hx rfl (hb hby d2_30) rfl (l' := #[.val (.ref b), .val (.int p1), .val (.int (5 : Int32)), .val (.long (q &&& (((1 : Int64) <<< ((8 : Int32) &&& 0x3f).toInt64) - (1 : Int64)))), .second, .val (.int (0 : Int32))]) rfl ?_
    show Steps p.tables e below (s₁.setTop (mkF m 31 #[.val (.ref b), .val (.int p1), .val (.int (5 : Int32)), .val (.long (q &&& (((1 : Int64) <<< ((8 : Int32) &&& 0x3f).toInt64) - (1 : Int64)))), .second, .val (.int (0 : Int32))] [])) _
    refine XS.iinc X0.here hx rfl (hb hby d2_31) rfl (l' := #[.val (.ref b), .val (.int p1), .val (.int (5 : Int32)), .val (.long (q &&& (((1 : Int64) <<< ((8 : Int32) &&& 0x3f).toInt64) - (1 : Int64)))), .second, .val (.int ((0 : Int32) + (1 : Int32)))]) rfl ?_
    show Steps p.tables e below (s₁.setTop (mkF m 34 #[.val (.ref b), .val (.int p1), .val (.int (5 : Int32)), .val (.long (q &&& (((1 : Int64) <<< ((8 : Int32) &&& 0x3f).toInt64) - (1 : Int64)))), .second, .val (.int ((0 : Int32) + (1 : Int32)))] [])) _
    rw [show ((0 : Int32) + (1 : Int32)) = (1 : Int32) from (by decide : ((0 : Int32) + (1 : Int32)) = (1 : Int32))]
    show Steps p.tables e below (s₁.setTop (mkF m 34 #[.val (.ref b), .val (.int p1), .val (.int (5 : Int32)), .val (.long (q &&& (((1 : Int64) <<< ((8 : Int32) &&& 0x3f).toInt64) - (1 : Int64)))), .second, .val (.int (1 : Int32))] [])) _
    refine XS.goto X0.here hx rfl (pc0 := 34) (pc' := 5) rfl (hb hby d2_34) (by decide) (by decide) ?_
    show Steps p.tables e below (s₁.setTop (mkF m 5 #[.val (.ref b), .val (.int p1), .val (.int (5 : Int32)), .val (.long (q &&& (((1 : Int64) <<< ((8 : Int32) &&& 0x3f).toInt64) - (1 : Int64)))), .second, .val (.int (1 : Int32))] [])) _
    refine XS.iload X0.here hx rfl (hb hby d2_5) rfl ?_
    show Steps p.tables e below (s₁.setTop (mkF m 7 #[.val (.ref b), .val (.int p1), .val (.int (5 : Int32)), .val (.long (q &&& (((1 : Int64) <<< ((8 : Int32) &&& 0x3f).toInt64) - (1 : Int64)))), .second, .val (.int (1 : Int32))] [(.int (1 : Int32))])) _
    refine XS.iloadN X0.here hx rfl (hb hby d2_7) rfl ?_
    show Steps p.tables e below (s₁.setTop (mkF m 8 #[.val (.ref b), .val (.int p1), .val (.int (5 : Int32)), .val (.long (q &&& (((1 : Int64) <<< ((8 : Int32) &&& 0x3f).toInt64) - (1 : Int64)))), .second, .val (.int (1 : Int32))] [(.int (5 : Int32)), (.int (1 : Int32))])) _
    refine XS.icmpNo X0.here hx rfl (hb hby d2_8) rfl (by decide) ?_
    show Steps p.tables e below (s₁.setTop (mkF m 11 #[.val (.ref b), .val (.int p1), .val (.int (5 : Int32)), .val (.long (q &&& (((1 : Int64) <<< ((8 : Int32) &&& 0x3f).toInt64) - (1 : Int64)))), .second, .val (.int (1 : Int32))] [])) _
    refine XS.lloadN X0.here hx rfl (hb hby d2_11) rfl ?_
    show Steps p.tables e below (s₁.setTop (mkF m 12 #[.val (.ref b), .val (.int p1), .val (.int (5 : Int32)), .val (.long (q &&& (((1 : Int64) <<< ((8 : Int32) &&& 0x3f).toInt64) - (1 : Int64)))), .second, .val (.int (1 : Int32))] [(.long (q &&& (((1 : Int64) <<< ((8 : Int32) &&& 0x3f).toInt64) - (1 : Int64))))])) _
    refine XS.aloadN X0.here hx rfl (hb hby d2_12) rfl rfl ?_
    show Steps p.tables e below (s₁.setTop (mkF m 13 #[.val (.ref b), .val (.int p1), .val (.int (5 : Int32)), .val (.long (q &&& (((1 : Int64) <<< ((8 : Int32) &&& 0x3f).toInt64) - (1 : Int64)))), .second, .val (.int (1 : Int32))] [(.ref b), (.long (q &&& (((1 : Int64) <<< ((8 : Int32) &&& 0x3f).toInt64) - (1 : Int64))))])) _
    refine XS.iloadN X0.here hx rfl (hb hby d2_13) rfl ?_
    show Steps p.tables e below (s₁.setTop (mkF m 14 #[.val (.ref b), .val (.int p1), .val (.int (5 : Int32)), .val (.long (q &&& (((1 : Int64) <<< ((8 : Int32) &&& 0x3f).toInt64) - (1 : Int64)))), .second, .val (.int (1 : Int32))] [(.int p1), (.ref b), (.long (q &&& (((1 : Int64) <<< ((8 : Int32) &&& 0x3f).toInt64) - (1 : Int64))))])) _
    refine XS.iload X0.here hx rfl (hb hby d2_14) rfl ?_
    show Steps p.tables e below (s₁.setTop (mkF m 16 #[.val (.ref b), .val (.int p1), .val (.int (5 : Int32)), .val (.long (q &&& (((1 : Int64) <<< ((8 : Int32) &&& 0x3f).toInt64) - (1 : Int64)))), .second, .val (.int (1 : Int32))] [(.int (1 : Int32)), (.int p1), (.ref b), (.long (q &&& (((1 : Int64) <<< ((8 : Int32) &&& 0x3f).toInt64) - (1 : Int64))))])) _
    refine XS.iadd X0.here hx rfl (hb hby d2_16) rfl ?_
    show Steps p.tables e below (s₁.setTop (mkF m 17 #[.val (.ref b), .val (.int p1), .val (.int (5 : Int32)), .val (.long (q &&& (((1 : Int64) <<< ((8 : Int32) &&& 0x3f).toInt64) - (1 : Int64)))), .second, .val (.int (1 : Int32))] [(.int (p1 + (1 : Int32))), (.ref b), (.long (q &&& (((1 : Int64) <<< ((8 : Int32) &&& 0x3f).toInt64) - (1 : Int64))))])) _
    exact kq)
  obtain ⟨cl47, Ar47, q47, S47, M47, H47, Gf47⟩ := id A
  have hi48 : ¬ ((p1 + (1 : Int32)) < 0 ∨ cl47.slots.size ≤ ((p1 + (1 : Int32))).toNatClampNeg) := (inb_of S47 (hat (1 : Int32) (Or.inr (Or.inl rfl))).1)
  have G49 : Go p e below A0 (s₁.setTop (mkF m 17 #[.val (.ref b), .val (.int p1), .val (.int (5 : Int32)), .val (.long (q &&& (((1 : Int64) <<< ((16 : Int32) &&& 0x3f).toInt64) - (1 : Int64)))), .second, .val (.int (2 : Int32))] [(.int (p1 + (2 : Int32))), (.ref b), (.long (q &&& (((1 : Int64) <<< ((16 : Int32) &&& 0x3f).toInt64) - (1 : Int64))))])) := fun tq kq => G46 tq (by
    refine X0.baloadBytes hx (j := (p1 + (1 : Int32))) (v := (.int (own_by q (1 : Int32)))) (by rw [e0]; exact Ar47.1) (State.isArrayOf_alike hZ.alike Ar47.2.1) Ar47.2.2 hi48 (H47.at hi48 (hat (1 : Int32) (Or.inr (Or.inl rfl))).2) (g := (mkF m 17 #[.val (.ref b), .val (.int p1), .val (.int (5 : Int32)), .val (.long (q &&& (((1 : Int64) <<< ((8 : Int32) &&& 0x3f).toInt64) - (1 : Int64)))), .second, .val (.int (1 : Int32))] [(.int (p1 + (1 : Int32))), (.ref b), (.long (q &&& (((1 : Int64) <<< ((8 : Int32) &&& 0x3f).toInt64) - (1 : Int64))))])) rfl rfl (hb hby d2_17) _ ?_
    show Steps p.tables e below (s₁.setTop (mkF m 18 #[.val (.ref b), .val (.int p1), .val (.int (5 : Int32)), .val (.long (q &&& (((1 : Int64) <<< ((8 : Int32) &&& 0x3f).toInt64) - (1 : Int64)))), .second, .val (.int (1 : Int32))] [(.int (own_by q (1 : Int32))), (.long (q &&& (((1 : Int64) <<< ((8 : Int32) &&& 0x3f).toInt64) - (1 : Int64))))])) _
    refine XS.sipush X0.here hx rfl (hb hby d2_18) ?_
    show Steps p.tables e below (s₁.setTop (mkF m 21 #[.val (.ref b), .val (.int p1), .val (.int (5 : Int32)), .val (.long (q &&& (((1 : Int64) <<< ((8 : Int32) &&& 0x3f).toInt64) - (1 : Int64)))), .second, .val (.int (1 : Int32))] [(.int (255 : Int32)), (.int (own_by q (1 : Int32))), (.long (q &&& (((1 : Int64) <<< ((8 : Int32) &&& 0x3f).toInt64) - (1 : Int64))))])) _
    refine XS.iand X0.here hx rfl (hb hby d2_21) rfl ?_
    show Steps p.tables e below (s₁.setTop (mkF m 22 #[.val (.ref b), .val (.int p1), .val (.int (5 : Int32)), .val (.long (q &&& (((1 : Int64) <<< ((8 : Int32) &&& 0x3f).toInt64) - (1 : Int64)))), .second, .val (.int (1 : Int32))] [(.int ((own_by q (1 : Int32)) &&& (255 : Int32))), (.long (q &&& (((1 : Int64) <<< ((8 : Int32) &&& 0x3f).toInt64) - (1 : Int64))))])) _
    refine XS.i2l X0.here hx rfl (hb hby d2_22) rfl ?_
    show Steps p.tables e below (s₁.setTop (mkF m 23 #[.val (.ref b), .val (.int p1), .val (.int (5 : Int32)), .val (.long (q &&& (((1 : Int64) <<< ((8 : Int32) &&& 0x3f).toInt64) - (1 : Int64)))), .second, .val (.int (1 : Int32))] [(.long ((own_by q (1 : Int32)) &&& (255 : Int32)).toInt64), (.long (q &&& (((1 : Int64) <<< ((8 : Int32) &&& 0x3f).toInt64) - (1 : Int64))))])) _
    refine XS.bipush X0.here hx rfl (hb hby d2_23) ?_
    show Steps p.tables e below (s₁.setTop (mkF m 25 #[.val (.ref b), .val (.int p1), .val (.int (5 : Int32)), .val (.long (q &&& (((1 : Int64) <<< ((8 : Int32) &&& 0x3f).toInt64) - (1 : Int64)))), .second, .val (.int (1 : Int32))] [(.int (8 : Int32)), (.long ((own_by q (1 : Int32)) &&& (255 : Int32)).toInt64), (.long (q &&& (((1 : Int64) <<< ((8 : Int32) &&& 0x3f).toInt64) - (1 : Int64))))])) _
    refine XS.iload X0.here hx rfl (hb hby d2_25) rfl ?_
    show Steps p.tables e below (s₁.setTop (mkF m 27 #[.val (.ref b), .val (.int p1), .val (.int (5 : Int32)), .val (.long (q &&& (((1 : Int64) <<< ((8 : Int32) &&& 0x3f).toInt64) - (1 : Int64)))), .second, .val (.int (1 : Int32))] [(.int (1 : Int32)), (.int (8 : Int32)), (.long ((own_by q (1 : Int32)) &&& (255 : Int32)).toInt64), (.long (q &&& (((1 : Int64) <<< ((8 : Int32) &&& 0x3f).toInt64) - (1 : Int64))))])) _
    refine XS.imul X0.here hx rfl (hb hby d2_27) rfl ?_
    show Steps p.tables e below (s₁.setTop (mkF m 28 #[.val (.ref b), .val (.int p1), .val (.int (5 : Int32)), .val (.long (q &&& (((1 : Int64) <<< ((8 : Int32) &&& 0x3f).toInt64) - (1 : Int64)))), .second, .val (.int (1 : Int32))] [(.int ((8 : Int32) * (1 : Int32))), (.long ((own_by q (1 : Int32)) &&& (255 : Int32)).toInt64), (.long (q &&& (((1 : Int64) <<< ((8 : Int32) &&& 0x3f).toInt64) - (1 : Int64))))])) _
    rw [show ((8 : Int32) * (1 : Int32)) = (8 : Int32) from (by decide : ((8 : Int32) * (1 : Int32)) = (8 : Int32))]
    show Steps p.tables e below (s₁.setTop (mkF m 28 #[.val (.ref b), .val (.int p1), .val (.int (5 : Int32)), .val (.long (q &&& (((1 : Int64) <<< ((8 : Int32) &&& 0x3f).toInt64) - (1 : Int64)))), .second, .val (.int (1 : Int32))] [(.int (8 : Int32)), (.long ((own_by q (1 : Int32)) &&& (255 : Int32)).toInt64), (.long (q &&& (((1 : Int64) <<< ((8 : Int32) &&& 0x3f).toInt64) - (1 : Int64))))])) _
    refine XS.lshl X0.here hx rfl (hb hby d2_28) rfl ?_
    show Steps p.tables e below (s₁.setTop (mkF m 29 #[.val (.ref b), .val (.int p1), .val (.int (5 : Int32)), .val (.long (q &&& (((1 : Int64) <<< ((8 : Int32) &&& 0x3f).toInt64) - (1 : Int64)))), .second, .val (.int (1 : Int32))] [(.long (((own_by q (1 : Int32)) &&& (255 : Int32)).toInt64 <<< ((8 : Int32) &&& 0x3f).toInt64)), (.long (q &&& (((1 : Int64) <<< ((8 : Int32) &&& 0x3f).toInt64) - (1 : Int64))))])) _
    refine XS.lor X0.here hx rfl (hb hby d2_29) rfl ?_
    show Steps p.tables e below (s₁.setTop (mkF m 30 #[.val (.ref b), .val (.int p1), .val (.int (5 : Int32)), .val (.long (q &&& (((1 : Int64) <<< ((8 : Int32) &&& 0x3f).toInt64) - (1 : Int64)))), .second, .val (.int (1 : Int32))] [(.long ((q &&& (((1 : Int64) <<< ((8 : Int32) &&& 0x3f).toInt64) - (1 : Int64))) ||| (((own_by q (1 : Int32)) &&& (255 : Int32)).toInt64 <<< ((8 : Int32) &&& 0x3f).toInt64)))])) _
    rw [show ((q &&& (((1 : Int64) <<< ((8 : Int32) &&& 0x3f).toInt64) - (1 : Int64))) ||| (((own_by q (1 : Int32)) &&& (255 : Int32)).toInt64 <<< ((8 : Int32) &&& 0x3f).toInt64)) = (q &&& (((1 : Int64) <<< ((16 : Int32) &&& 0x3f).toInt64) - (1 : Int64))) from own_step_1 q]
    show Steps p.tables e below (s₁.setTop (mkF m 30 #[.val (.ref b), .val (.int p1), .val (.int (5 : Int32)), .val (.long (q &&& (((1 : Int64) <<< ((8 : Int32) &&& 0x3f).toInt64) - (1 : Int64)))), .second, .val (.int (1 : Int32))] [(.long (q &&& (((1 : Int64) <<< ((16 : Int32) &&& 0x3f).toInt64) - (1 : Int64))))])) _
    refine XS.lstoreN X0.here hx rfl (hb hby d2_30) rfl (l' := #[.val (.ref b), .val (.int p1), .val (.int (5 : Int32)), .val (.long (q &&& (((1 : Int64) <<< ((16 : Int32) &&& 0x3f).toInt64) - (1 : Int64)))), .second, .val (.int (1 : Int32))]) rfl ?_
    show Steps p.tables e below (s₁.setTop (mkF m 31 #[.val (.ref b), .val (.int p1), .val (.int (5 : Int32)), .val (.long (q &&& (((1 : Int64) <<< ((16 : Int32) &&& 0x3f).toInt64) - (1 : Int64)))), .second, .val (.int (1 : Int32))] [])) _
    refine XS.iinc X0.here hx rfl (hb hby d2_31) rfl (l' := #[.val (.ref b), .val (.int p1), .val (.int (5 : Int32)), .val (.long (q &&& (((1 : Int64) <<< ((16 : Int32) &&& 0x3f).toInt64) - (1 : Int64)))), .second, .val (.int ((1 : Int32) + (1 : Int32)))]) rfl ?_
    show Steps p.tables e below (s₁.setTop (mkF m 34 #[.val (.ref b), .val (.int p1), .val (.int (5 : Int32)), .val (.long (q &&& (((1 : Int64) <<< ((16 : Int32) &&& 0x3f).toInt64) - (1 : Int64)))), .second, .val (.int ((1 : Int32) + (1 : Int32)))] [])) _
    rw [show ((1 : Int32) + (1 : Int32)) = (2 : Int32) from (by decide : ((1 : Int32) + (1 : Int32)) = (2 : Int32))]
    show Steps p.tables e below (s₁.setTop (mkF m 34 #[.val (.ref b), .val (.int p1), .val (.int (5 : Int32)), .val (.long (q &&& (((1 : Int64) <<< ((16 : Int32) &&& 0x3f).toInt64) - (1 : Int64)))), .second, .val (.int (2 : Int32))] [])) _
    refine XS.goto X0.here hx rfl (pc0 := 34) (pc' := 5) rfl (hb hby d2_34) (by decide) (by decide) ?_
    show Steps p.tables e below (s₁.setTop (mkF m 5 #[.val (.ref b), .val (.int p1), .val (.int (5 : Int32)), .val (.long (q &&& (((1 : Int64) <<< ((16 : Int32) &&& 0x3f).toInt64) - (1 : Int64)))), .second, .val (.int (2 : Int32))] [])) _
    refine XS.iload X0.here hx rfl (hb hby d2_5) rfl ?_
    show Steps p.tables e below (s₁.setTop (mkF m 7 #[.val (.ref b), .val (.int p1), .val (.int (5 : Int32)), .val (.long (q &&& (((1 : Int64) <<< ((16 : Int32) &&& 0x3f).toInt64) - (1 : Int64)))), .second, .val (.int (2 : Int32))] [(.int (2 : Int32))])) _
    refine XS.iloadN X0.here hx rfl (hb hby d2_7) rfl ?_
    show Steps p.tables e below (s₁.setTop (mkF m 8 #[.val (.ref b), .val (.int p1), .val (.int (5 : Int32)), .val (.long (q &&& (((1 : Int64) <<< ((16 : Int32) &&& 0x3f).toInt64) - (1 : Int64)))), .second, .val (.int (2 : Int32))] [(.int (5 : Int32)), (.int (2 : Int32))])) _
    refine XS.icmpNo X0.here hx rfl (hb hby d2_8) rfl (by decide) ?_
    show Steps p.tables e below (s₁.setTop (mkF m 11 #[.val (.ref b), .val (.int p1), .val (.int (5 : Int32)), .val (.long (q &&& (((1 : Int64) <<< ((16 : Int32) &&& 0x3f).toInt64) - (1 : Int64)))), .second, .val (.int (2 : Int32))] [])) _
    refine XS.lloadN X0.here hx rfl (hb hby d2_11) rfl ?_
    show Steps p.tables e below (s₁.setTop (mkF m 12 #[.val (.ref b), .val (.int p1), .val (.int (5 : Int32)), .val (.long (q &&& (((1 : Int64) <<< ((16 : Int32) &&& 0x3f).toInt64) - (1 : Int64)))), .second, .val (.int (2 : Int32))] [(.long (q &&& (((1 : Int64) <<< ((16 : Int32) &&& 0x3f).toInt64) - (1 : Int64))))])) _
    refine XS.aloadN X0.here hx rfl (hb hby d2_12) rfl rfl ?_
    show Steps p.tables e below (s₁.setTop (mkF m 13 #[.val (.ref b), .val (.int p1), .val (.int (5 : Int32)), .val (.long (q &&& (((1 : Int64) <<< ((16 : Int32) &&& 0x3f).toInt64) - (1 : Int64)))), .second, .val (.int (2 : Int32))] [(.ref b), (.long (q &&& (((1 : Int64) <<< ((16 : Int32) &&& 0x3f).toInt64) - (1 : Int64))))])) _
    refine XS.iloadN X0.here hx rfl (hb hby d2_13) rfl ?_
    show Steps p.tables e below (s₁.setTop (mkF m 14 #[.val (.ref b), .val (.int p1), .val (.int (5 : Int32)), .val (.long (q &&& (((1 : Int64) <<< ((16 : Int32) &&& 0x3f).toInt64) - (1 : Int64)))), .second, .val (.int (2 : Int32))] [(.int p1), (.ref b), (.long (q &&& (((1 : Int64) <<< ((16 : Int32) &&& 0x3f).toInt64) - (1 : Int64))))])) _
    refine XS.iload X0.here hx rfl (hb hby d2_14) rfl ?_
    show Steps p.tables e below (s₁.setTop (mkF m 16 #[.val (.ref b), .val (.int p1), .val (.int (5 : Int32)), .val (.long (q &&& (((1 : Int64) <<< ((16 : Int32) &&& 0x3f).toInt64) - (1 : Int64)))), .second, .val (.int (2 : Int32))] [(.int (2 : Int32)), (.int p1), (.ref b), (.long (q &&& (((1 : Int64) <<< ((16 : Int32) &&& 0x3f).toInt64) - (1 : Int64))))])) _
    refine XS.iadd X0.here hx rfl (hb hby d2_16) rfl ?_
    show Steps p.tables e below (s₁.setTop (mkF m 17 #[.val (.ref b), .val (.int p1), .val (.int (5 : Int32)), .val (.long (q &&& (((1 : Int64) <<< ((16 : Int32) &&& 0x3f).toInt64) - (1 : Int64)))), .second, .val (.int (2 : Int32))] [(.int (p1 + (2 : Int32))), (.ref b), (.long (q &&& (((1 : Int64) <<< ((16 : Int32) &&& 0x3f).toInt64) - (1 : Int64))))])) _
    exact kq)
  obtain ⟨cl50, Ar50, q50, S50, M50, H50, Gf50⟩ := id A
  have hi51 : ¬ ((p1 + (2 : Int32)) < 0 ∨ cl50.slots.size ≤ ((p1 + (2 : Int32))).toNatClampNeg) := (inb_of S50 (hat (2 : Int32) (Or.inr (Or.inr (Or.inl rfl)))).1)
  have G52 : Go p e below A0 (s₁.setTop (mkF m 17 #[.val (.ref b), .val (.int p1), .val (.int (5 : Int32)), .val (.long (q &&& (((1 : Int64) <<< ((24 : Int32) &&& 0x3f).toInt64) - (1 : Int64)))), .second, .val (.int (3 : Int32))] [(.int (p1 + (3 : Int32))), (.ref b), (.long (q &&& (((1 : Int64) <<< ((24 : Int32) &&& 0x3f).toInt64) - (1 : Int64))))])) := fun tq kq => G49 tq (by
    refine X0.baloadBytes hx (j := (p1 + (2 : Int32))) (v := (.int (own_by q (2 : Int32)))) (by rw [e0]; exact Ar50.1) (State.isArrayOf_alike hZ.alike Ar50.2.1) Ar50.2.2 hi51 (H50.at hi51 (hat (2 : Int32) (Or.inr (Or.inr (Or.inl rfl)))).2) (g := (mkF m 17 #[.val (.ref b), .val (.int p1), .val (.int (5 : Int32)), .val (.long (q &&& (((1 : Int64) <<< ((16 : Int32) &&& 0x3f).toInt64) - (1 : Int64)))), .second, .val (.int (2 : Int32))] [(.int (p1 + (2 : Int32))), (.ref b), (.long (q &&& (((1 : Int64) <<< ((16 : Int32) &&& 0x3f).toInt64) - (1 : Int64))))])) rfl rfl (hb hby d2_17) _ ?_
    show Steps p.tables e below (s₁.setTop (mkF m 18 #[.val (.ref b), .val (.int p1), .val (.int (5 : Int32)), .val (.long (q &&& (((1 : Int64) <<< ((16 : Int32) &&& 0x3f).toInt64) - (1 : Int64)))), .second, .val (.int (2 : Int32))] [(.int (own_by q (2 : Int32))), (.long (q &&& (((1 : Int64) <<< ((16 : Int32) &&& 0x3f).toInt64) - (1 : Int64))))])) _
    refine XS.sipush X0.here hx rfl (hb hby d2_18) ?_
    show Steps p.tables e below (s₁.setTop (mkF m 21 #[.val (.ref b), .val (.int p1), .val (.int (5 : Int32)), .val (.long (q &&& (((1 : Int64) <<< ((16 : Int32) &&& 0x3f).toInt64) - (1 : Int64)))), .second, .val (.int (2 : Int32))] [(.int (255 : Int32)), (.int (own_by q (2 : Int32))), (.long (q &&& (((1 : Int64) <<< ((16 : Int32) &&& 0x3f).toInt64) - (1 : Int64))))])) _
    refine XS.iand X0.here hx rfl (hb hby d2_21) rfl ?_
    show Steps p.tables e below (s₁.setTop (mkF m 22 #[.val (.ref b), .val (.int p1), .val (.int (5 : Int32)), .val (.long (q &&& (((1 : Int64) <<< ((16 : Int32) &&& 0x3f).toInt64) - (1 : Int64)))), .second, .val (.int (2 : Int32))] [(.int ((own_by q (2 : Int32)) &&& (255 : Int32))), (.long (q &&& (((1 : Int64) <<< ((16 : Int32) &&& 0x3f).toInt64) - (1 : Int64))))])) _
    refine XS.i2l X0.here hx rfl (hb hby d2_22) rfl ?_
    show Steps p.tables e below (s₁.setTop (mkF m 23 #[.val (.ref b), .val (.int p1), .val (.int (5 : Int32)), .val (.long (q &&& (((1 : Int64) <<< ((16 : Int32) &&& 0x3f).toInt64) - (1 : Int64)))), .second, .val (.int (2 : Int32))] [(.long ((own_by q (2 : Int32)) &&& (255 : Int32)).toInt64), (.long (q &&& (((1 : Int64) <<< ((16 : Int32) &&& 0x3f).toInt64) - (1 : Int64))))])) _
    refine XS.bipush X0.here hx rfl (hb hby d2_23) ?_
    show Steps p.tables e below (s₁.setTop (mkF m 25 #[.val (.ref b), .val (.int p1), .val (.int (5 : Int32)), .val (.long (q &&& (((1 : Int64) <<< ((16 : Int32) &&& 0x3f).toInt64) - (1 : Int64)))), .second, .val (.int (2 : Int32))] [(.int (8 : Int32)), (.long ((own_by q (2 : Int32)) &&& (255 : Int32)).toInt64), (.long (q &&& (((1 : Int64) <<< ((16 : Int32) &&& 0x3f).toInt64) - (1 : Int64))))])) _
    refine XS.iload X0.here hx rfl (hb hby d2_25) rfl ?_
    show Steps p.tables e below (s₁.setTop (mkF m 27 #[.val (.ref b), .val (.int p1), .val (.int (5 : Int32)), .val (.long (q &&& (((1 : Int64) <<< ((16 : Int32) &&& 0x3f).toInt64) - (1 : Int64)))), .second, .val (.int (2 : Int32))] [(.int (2 : Int32)), (.int (8 : Int32)), (.long ((own_by q (2 : Int32)) &&& (255 : Int32)).toInt64), (.long (q &&& (((1 : Int64) <<< ((16 : Int32) &&& 0x3f).toInt64) - (1 : Int64))))])) _
    refine XS.imul X0.here hx rfl (hb hby d2_27) rfl ?_
    show Steps p.tables e below (s₁.setTop (mkF m 28 #[.val (.ref b), .val (.int p1), .val (.int (5 : Int32)), .val (.long (q &&& (((1 : Int64) <<< ((16 : Int32) &&& 0x3f).toInt64) - (1 : Int64)))), .second, .val (.int (2 : Int32))] [(.int ((8 : Int32) * (2 : Int32))), (.long ((own_by q (2 : Int32)) &&& (255 : Int32)).toInt64), (.long (q &&& (((1 : Int64) <<< ((16 : Int32) &&& 0x3f).toInt64) - (1 : Int64))))])) _
    rw [show ((8 : Int32) * (2 : Int32)) = (16 : Int32) from (by decide : ((8 : Int32) * (2 : Int32)) = (16 : Int32))]
    show Steps p.tables e below (s₁.setTop (mkF m 28 #[.val (.ref b), .val (.int p1), .val (.int (5 : Int32)), .val (.long (q &&& (((1 : Int64) <<< ((16 : Int32) &&& 0x3f).toInt64) - (1 : Int64)))), .second, .val (.int (2 : Int32))] [(.int (16 : Int32)), (.long ((own_by q (2 : Int32)) &&& (255 : Int32)).toInt64), (.long (q &&& (((1 : Int64) <<< ((16 : Int32) &&& 0x3f).toInt64) - (1 : Int64))))])) _
    refine XS.lshl X0.here hx rfl (hb hby d2_28) rfl ?_
    show Steps p.tables e below (s₁.setTop (mkF m 29 #[.val (.ref b), .val (.int p1), .val (.int (5 : Int32)), .val (.long (q &&& (((1 : Int64) <<< ((16 : Int32) &&& 0x3f).toInt64) - (1 : Int64)))), .second, .val (.int (2 : Int32))] [(.long (((own_by q (2 : Int32)) &&& (255 : Int32)).toInt64 <<< ((16 : Int32) &&& 0x3f).toInt64)), (.long (q &&& (((1 : Int64) <<< ((16 : Int32) &&& 0x3f).toInt64) - (1 : Int64))))])) _
    refine XS.lor X0.here hx rfl (hb hby d2_29) rfl ?_
    show Steps p.tables e below (s₁.setTop (mkF m 30 #[.val (.ref b), .val (.int p1), .val (.int (5 : Int32)), .val (.long (q &&& (((1 : Int64) <<< ((16 : Int32) &&& 0x3f).toInt64) - (1 : Int64)))), .second, .val (.int (2 : Int32))] [(.long ((q &&& (((1 : Int64) <<< ((16 : Int32) &&& 0x3f).toInt64) - (1 : Int64))) ||| (((own_by q (2 : Int32)) &&& (255 : Int32)).toInt64 <<< ((16 : Int32) &&& 0x3f).toInt64)))])) _
    rw [show ((q &&& (((1 : Int64) <<< ((16 : Int32) &&& 0x3f).toInt64) - (1 : Int64))) ||| (((own_by q (2 : Int32)) &&& (255 : Int32)).toInt64 <<< ((16 : Int32) &&& 0x3f).toInt64)) = (q &&& (((1 : Int64) <<< ((24 : Int32) &&& 0x3f).toInt64) - (1 : Int64))) from own_step_2 q]
    show Steps p.tables e below (s₁.setTop (mkF m 30 #[.val (.ref b), .val (.int p1), .val (.int (5 : Int32)), .val (.long (q &&& (((1 : Int64) <<< ((16 : Int32) &&& 0x3f).toInt64) - (1 : Int64)))), .second, .val (.int (2 : Int32))] [(.long (q &&& (((1 : Int64) <<< ((24 : Int32) &&& 0x3f).toInt64) - (1 : Int64))))])) _
    refine XS.lstoreN X0.here hx rfl (hb hby d2_30) rfl (l' := #[.val (.ref b), .val (.int p1), .val (.int (5 : Int32)), .val (.long (q &&& (((1 : Int64) <<< ((24 : Int32) &&& 0x3f).toInt64) - (1 : Int64)))), .second, .val (.int (2 : Int32))]) rfl ?_
    show Steps p.tables e below (s₁.setTop (mkF m 31 #[.val (.ref b), .val (.int p1), .val (.int (5 : Int32)), .val (.long (q &&& (((1 : Int64) <<< ((24 : Int32) &&& 0x3f).toInt64) - (1 : Int64)))), .second, .val (.int (2 : Int32))] [])) _
    refine XS.iinc X0.here hx rfl (hb hby d2_31) rfl (l' := #[.val (.ref b), .val (.int p1), .val (.int (5 : Int32)), .val (.long (q &&& (((1 : Int64) <<< ((24 : Int32) &&& 0x3f).toInt64) - (1 : Int64)))), .second, .val (.int ((2 : Int32) + (1 : Int32)))]) rfl ?_
    show Steps p.tables e below (s₁.setTop (mkF m 34 #[.val (.ref b), .val (.int p1), .val (.int (5 : Int32)), .val (.long (q &&& (((1 : Int64) <<< ((24 : Int32) &&& 0x3f).toInt64) - (1 : Int64)))), .second, .val (.int ((2 : Int32) + (1 : Int32)))] [])) _
    rw [show ((2 : Int32) + (1 : Int32)) = (3 : Int32) from (by decide : ((2 : Int32) + (1 : Int32)) = (3 : Int32))]
    show Steps p.tables e below (s₁.setTop (mkF m 34 #[.val (.ref b), .val (.int p1), .val (.int (5 : Int32)), .val (.long (q &&& (((1 : Int64) <<< ((24 : Int32) &&& 0x3f).toInt64) - (1 : Int64)))), .second, .val (.int (3 : Int32))] [])) _
    refine XS.goto X0.here hx rfl (pc0 := 34) (pc' := 5) rfl (hb hby d2_34) (by decide) (by decide) ?_
    show Steps p.tables e below (s₁.setTop (mkF m 5 #[.val (.ref b), .val (.int p1), .val (.int (5 : Int32)), .val (.long (q &&& (((1 : Int64) <<< ((24 : Int32) &&& 0x3f).toInt64) - (1 : Int64)))), .second, .val (.int (3 : Int32))] [])) _
    refine XS.iload X0.here hx rfl (hb hby d2_5) rfl ?_
    show Steps p.tables e below (s₁.setTop (mkF m 7 #[.val (.ref b), .val (.int p1), .val (.int (5 : Int32)), .val (.long (q &&& (((1 : Int64) <<< ((24 : Int32) &&& 0x3f).toInt64) - (1 : Int64)))), .second, .val (.int (3 : Int32))] [(.int (3 : Int32))])) _
    refine XS.iloadN X0.here hx rfl (hb hby d2_7) rfl ?_
    show Steps p.tables e below (s₁.setTop (mkF m 8 #[.val (.ref b), .val (.int p1), .val (.int (5 : Int32)), .val (.long (q &&& (((1 : Int64) <<< ((24 : Int32) &&& 0x3f).toInt64) - (1 : Int64)))), .second, .val (.int (3 : Int32))] [(.int (5 : Int32)), (.int (3 : Int32))])) _
    refine XS.icmpNo X0.here hx rfl (hb hby d2_8) rfl (by decide) ?_
    show Steps p.tables e below (s₁.setTop (mkF m 11 #[.val (.ref b), .val (.int p1), .val (.int (5 : Int32)), .val (.long (q &&& (((1 : Int64) <<< ((24 : Int32) &&& 0x3f).toInt64) - (1 : Int64)))), .second, .val (.int (3 : Int32))] [])) _
    refine XS.lloadN X0.here hx rfl (hb hby d2_11) rfl ?_
    show Steps p.tables e below (s₁.setTop (mkF m 12 #[.val (.ref b), .val (.int p1), .val (.int (5 : Int32)), .val (.long (q &&& (((1 : Int64) <<< ((24 : Int32) &&& 0x3f).toInt64) - (1 : Int64)))), .second, .val (.int (3 : Int32))] [(.long (q &&& (((1 : Int64) <<< ((24 : Int32) &&& 0x3f).toInt64) - (1 : Int64))))])) _
    refine XS.aloadN X0.here hx rfl (hb hby d2_12) rfl rfl ?_
    show Steps p.tables e below (s₁.setTop (mkF m 13 #[.val (.ref b), .val (.int p1), .val (.int (5 : Int32)), .val (.long (q &&& (((1 : Int64) <<< ((24 : Int32) &&& 0x3f).toInt64) - (1 : Int64)))), .second, .val (.int (3 : Int32))] [(.ref b), (.long (q &&& (((1 : Int64) <<< ((24 : Int32) &&& 0x3f).toInt64) - (1 : Int64))))])) _
    refine XS.iloadN X0.here hx rfl (hb hby d2_13) rfl ?_
    show Steps p.tables e below (s₁.setTop (mkF m 14 #[.val (.ref b), .val (.int p1), .val (.int (5 : Int32)), .val (.long (q &&& (((1 : Int64) <<< ((24 : Int32) &&& 0x3f).toInt64) - (1 : Int64)))), .second, .val (.int (3 : Int32))] [(.int p1), (.ref b), (.long (q &&& (((1 : Int64) <<< ((24 : Int32) &&& 0x3f).toInt64) - (1 : Int64))))])) _
    refine XS.iload X0.here hx rfl (hb hby d2_14) rfl ?_
    show Steps p.tables e below (s₁.setTop (mkF m 16 #[.val (.ref b), .val (.int p1), .val (.int (5 : Int32)), .val (.long (q &&& (((1 : Int64) <<< ((24 : Int32) &&& 0x3f).toInt64) - (1 : Int64)))), .second, .val (.int (3 : Int32))] [(.int (3 : Int32)), (.int p1), (.ref b), (.long (q &&& (((1 : Int64) <<< ((24 : Int32) &&& 0x3f).toInt64) - (1 : Int64))))])) _
    refine XS.iadd X0.here hx rfl (hb hby d2_16) rfl ?_
    show Steps p.tables e below (s₁.setTop (mkF m 17 #[.val (.ref b), .val (.int p1), .val (.int (5 : Int32)), .val (.long (q &&& (((1 : Int64) <<< ((24 : Int32) &&& 0x3f).toInt64) - (1 : Int64)))), .second, .val (.int (3 : Int32))] [(.int (p1 + (3 : Int32))), (.ref b), (.long (q &&& (((1 : Int64) <<< ((24 : Int32) &&& 0x3f).toInt64) - (1 : Int64))))])) _
    exact kq)
  obtain ⟨cl53, Ar53, q53, S53, M53, H53, Gf53⟩ := id A
  have hi54 : ¬ ((p1 + (3 : Int32)) < 0 ∨ cl53.slots.size ≤ ((p1 + (3 : Int32))).toNatClampNeg) := (inb_of S53 (hat (3 : Int32) (Or.inr (Or.inr (Or.inr (Or.inl rfl))))).1)
  have G55 : Go p e below A0 (s₁.setTop (mkF m 17 #[.val (.ref b), .val (.int p1), .val (.int (5 : Int32)), .val (.long (q &&& (((1 : Int64) <<< ((32 : Int32) &&& 0x3f).toInt64) - (1 : Int64)))), .second, .val (.int (4 : Int32))] [(.int (p1 + (4 : Int32))), (.ref b), (.long (q &&& (((1 : Int64) <<< ((32 : Int32) &&& 0x3f).toInt64) - (1 : Int64))))])) := fun tq kq => G52 tq (by
    refine X0.baloadBytes hx (j := (p1 + (3 : Int32))) (v := (.int (own_by q (3 : Int32)))) (by rw [e0]; exact Ar53.1) (State.isArrayOf_alike hZ.alike Ar53.2.1) Ar53.2.2 hi54 (H53.at hi54 (hat (3 : Int32) (Or.inr (Or.inr (Or.inr (Or.inl rfl))))).2) (g := (mkF m 17 #[.val (.ref b), .val (.int p1), .val (.int (5 : Int32)), .val (.long (q &&& (((1 : Int64) <<< ((24 : Int32) &&& 0x3f).toInt64) - (1 : Int64)))), .second, .val (.int (3 : Int32))] [(.int (p1 + (3 : Int32))), (.ref b), (.long (q &&& (((1 : Int64) <<< ((24 : Int32) &&& 0x3f).toInt64) - (1 : Int64))))])) rfl rfl (hb hby d2_17) _ ?_
    show Steps p.tables e below (s₁.setTop (mkF m 18 #[.val (.ref b), .val (.int p1), .val (.int (5 : Int32)), .val (.long (q &&& (((1 : Int64) <<< ((24 : Int32) &&& 0x3f).toInt64) - (1 : Int64)))), .second, .val (.int (3 : Int32))] [(.int (own_by q (3 : Int32))), (.long (q &&& (((1 : Int64) <<< ((24 : Int32) &&& 0x3f).toInt64) - (1 : Int64))))])) _
    refine XS.sipush X0.here hx rfl (hb hby d2_18) ?_
    show Steps p.tables e below (s₁.setTop (mkF m 21 #[.val (.ref b), .val (.int p1), .val (.int (5 : Int32)), .val (.long (q &&& (((1 : Int64) <<< ((24 : Int32) &&& 0x3f).toInt64) - (1 : Int64)))), .second, .val (.int (3 : Int32))] [(.int (255 : Int32)), (.int (own_by q (3 : Int32))), (.long (q &&& (((1 : Int64) <<< ((24 : Int32) &&& 0x3f).toInt64) - (1 : Int64))))])) _
    refine XS.iand X0.here hx rfl (hb hby d2_21) rfl ?_
    show Steps p.tables e below (s₁.setTop (mkF m 22 #[.val (.ref b), .val (.int p1), .val (.int (5 : Int32)), .val (.long (q &&& (((1 : Int64) <<< ((24 : Int32) &&& 0x3f).toInt64) - (1 : Int64)))), .second, .val (.int (3 : Int32))] [(.int ((own_by q (3 : Int32)) &&& (255 : Int32))), (.long (q &&& (((1 : Int64) <<< ((24 : Int32) &&& 0x3f).toInt64) - (1 : Int64))))])) _
    refine XS.i2l X0.here hx rfl (hb hby d2_22) rfl ?_
    show Steps p.tables e below (s₁.setTop (mkF m 23 #[.val (.ref b), .val (.int p1), .val (.int (5 : Int32)), .val (.long (q &&& (((1 : Int64) <<< ((24 : Int32) &&& 0x3f).toInt64) - (1 : Int64)))), .second, .val (.int (3 : Int32))] [(.long ((own_by q (3 : Int32)) &&& (255 : Int32)).toInt64), (.long (q &&& (((1 : Int64) <<< ((24 : Int32) &&& 0x3f).toInt64) - (1 : Int64))))])) _
    refine XS.bipush X0.here hx rfl (hb hby d2_23) ?_
    show Steps p.tables e below (s₁.setTop (mkF m 25 #[.val (.ref b), .val (.int p1), .val (.int (5 : Int32)), .val (.long (q &&& (((1 : Int64) <<< ((24 : Int32) &&& 0x3f).toInt64) - (1 : Int64)))), .second, .val (.int (3 : Int32))] [(.int (8 : Int32)), (.long ((own_by q (3 : Int32)) &&& (255 : Int32)).toInt64), (.long (q &&& (((1 : Int64) <<< ((24 : Int32) &&& 0x3f).toInt64) - (1 : Int64))))])) _
    refine XS.iload X0.here hx rfl (hb hby d2_25) rfl ?_
    show Steps p.tables e below (s₁.setTop (mkF m 27 #[.val (.ref b), .val (.int p1), .val (.int (5 : Int32)), .val (.long (q &&& (((1 : Int64) <<< ((24 : Int32) &&& 0x3f).toInt64) - (1 : Int64)))), .second, .val (.int (3 : Int32))] [(.int (3 : Int32)), (.int (8 : Int32)), (.long ((own_by q (3 : Int32)) &&& (255 : Int32)).toInt64), (.long (q &&& (((1 : Int64) <<< ((24 : Int32) &&& 0x3f).toInt64) - (1 : Int64))))])) _
    refine XS.imul X0.here hx rfl (hb hby d2_27) rfl ?_
    show Steps p.tables e below (s₁.setTop (mkF m 28 #[.val (.ref b), .val (.int p1), .val (.int (5 : Int32)), .val (.long (q &&& (((1 : Int64) <<< ((24 : Int32) &&& 0x3f).toInt64) - (1 : Int64)))), .second, .val (.int (3 : Int32))] [(.int ((8 : Int32) * (3 : Int32))), (.long ((own_by q (3 : Int32)) &&& (255 : Int32)).toInt64), (.long (q &&& (((1 : Int64) <<< ((24 : Int32) &&& 0x3f).toInt64) - (1 : Int64))))])) _
    rw [show ((8 : Int32) * (3 : Int32)) = (24 : Int32) from (by decide : ((8 : Int32) * (3 : Int32)) = (24 : Int32))]
    show Steps p.tables e below (s₁.setTop (mkF m 28 #[.val (.ref b), .val (.int p1), .val (.int (5 : Int32)), .val (.long (q &&& (((1 : Int64) <<< ((24 : Int32) &&& 0x3f).toInt64) - (1 : Int64)))), .second, .val (.int (3 : Int32))] [(.int (24 : Int32)), (.long ((own_by q (3 : Int32)) &&& (255 : Int32)).toInt64), (.long (q &&& (((1 : Int64) <<< ((24 : Int32) &&& 0x3f).toInt64) - (1 : Int64))))])) _
    refine XS.lshl X0.here hx rfl (hb hby d2_28) rfl ?_
    show Steps p.tables e below (s₁.setTop (mkF m 29 #[.val (.ref b), .val (.int p1), .val (.int (5 : Int32)), .val (.long (q &&& (((1 : Int64) <<< ((24 : Int32) &&& 0x3f).toInt64) - (1 : Int64)))), .second, .val (.int (3 : Int32))] [(.long (((own_by q (3 : Int32)) &&& (255 : Int32)).toInt64 <<< ((24 : Int32) &&& 0x3f).toInt64)), (.long (q &&& (((1 : Int64) <<< ((24 : Int32) &&& 0x3f).toInt64) - (1 : Int64))))])) _
    refine XS.lor X0.here hx rfl (hb hby d2_29) rfl ?_
    show Steps p.tables e below (s₁.setTop (mkF m 30 #[.val (.ref b), .val (.int p1), .val (.int (5 : Int32)), .val (.long (q &&& (((1 : Int64) <<< ((24 : Int32) &&& 0x3f).toInt64) - (1 : Int64)))), .second, .val (.int (3 : Int32))] [(.long ((q &&& (((1 : Int64) <<< ((24 : Int32) &&& 0x3f).toInt64) - (1 : Int64))) ||| (((own_by q (3 : Int32)) &&& (255 : Int32)).toInt64 <<< ((24 : Int32) &&& 0x3f).toInt64)))])) _
    rw [show ((q &&& (((1 : Int64) <<< ((24 : Int32) &&& 0x3f).toInt64) - (1 : Int64))) ||| (((own_by q (3 : Int32)) &&& (255 : Int32)).toInt64 <<< ((24 : Int32) &&& 0x3f).toInt64)) = (q &&& (((1 : Int64) <<< ((32 : Int32) &&& 0x3f).toInt64) - (1 : Int64))) from own_step_3 q]
    show Steps p.tables e below (s₁.setTop (mkF m 30 #[.val (.ref b), .val (.int p1), .val (.int (5 : Int32)), .val (.long (q &&& (((1 : Int64) <<< ((24 : Int32) &&& 0x3f).toInt64) - (1 : Int64)))), .second, .val (.int (3 : Int32))] [(.long (q &&& (((1 : Int64) <<< ((32 : Int32) &&& 0x3f).toInt64) - (1 : Int64))))])) _
    refine XS.lstoreN X0.here hx rfl (hb hby d2_30) rfl (l' := #[.val (.ref b), .val (.int p1), .val (.int (5 : Int32)), .val (.long (q &&& (((1 : Int64) <<< ((32 : Int32) &&& 0x3f).toInt64) - (1 : Int64)))), .second, .val (.int (3 : Int32))]) rfl ?_
    show Steps p.tables e below (s₁.setTop (mkF m 31 #[.val (.ref b), .val (.int p1), .val (.int (5 : Int32)), .val (.long (q &&& (((1 : Int64) <<< ((32 : Int32) &&& 0x3f).toInt64) - (1 : Int64)))), .second, .val (.int (3 : Int32))] [])) _
    refine XS.iinc X0.here hx rfl (hb hby d2_31) rfl (l' := #[.val (.ref b), .val (.int p1), .val (.int (5 : Int32)), .val (.long (q &&& (((1 : Int64) <<< ((32 : Int32) &&& 0x3f).toInt64) - (1 : Int64)))), .second, .val (.int ((3 : Int32) + (1 : Int32)))]) rfl ?_
    show Steps p.tables e below (s₁.setTop (mkF m 34 #[.val (.ref b), .val (.int p1), .val (.int (5 : Int32)), .val (.long (q &&& (((1 : Int64) <<< ((32 : Int32) &&& 0x3f).toInt64) - (1 : Int64)))), .second, .val (.int ((3 : Int32) + (1 : Int32)))] [])) _
    rw [show ((3 : Int32) + (1 : Int32)) = (4 : Int32) from (by decide : ((3 : Int32) + (1 : Int32)) = (4 : Int32))]
    show Steps p.tables e below (s₁.setTop (mkF m 34 #[.val (.ref b), .val (.int p1), .val (.int (5 : Int32)), .val (.long (q &&& (((1 : Int64) <<< ((32 : Int32) &&& 0x3f).toInt64) - (1 : Int64)))), .second, .val (.int (4 : Int32))] [])) _
    refine XS.goto X0.here hx rfl (pc0 := 34) (pc' := 5) rfl (hb hby d2_34) (by decide) (by decide) ?_
    show Steps p.tables e below (s₁.setTop (mkF m 5 #[.val (.ref b), .val (.int p1), .val (.int (5 : Int32)), .val (.long (q &&& (((1 : Int64) <<< ((32 : Int32) &&& 0x3f).toInt64) - (1 : Int64)))), .second, .val (.int (4 : Int32))] [])) _
    refine XS.iload X0.here hx rfl (hb hby d2_5) rfl ?_
    show Steps p.tables e below (s₁.setTop (mkF m 7 #[.val (.ref b), .val (.int p1), .val (.int (5 : Int32)), .val (.long (q &&& (((1 : Int64) <<< ((32 : Int32) &&& 0x3f).toInt64) - (1 : Int64)))), .second, .val (.int (4 : Int32))] [(.int (4 : Int32))])) _
    refine XS.iloadN X0.here hx rfl (hb hby d2_7) rfl ?_
    show Steps p.tables e below (s₁.setTop (mkF m 8 #[.val (.ref b), .val (.int p1), .val (.int (5 : Int32)), .val (.long (q &&& (((1 : Int64) <<< ((32 : Int32) &&& 0x3f).toInt64) - (1 : Int64)))), .second, .val (.int (4 : Int32))] [(.int (5 : Int32)), (.int (4 : Int32))])) _
    refine XS.icmpNo X0.here hx rfl (hb hby d2_8) rfl (by decide) ?_
    show Steps p.tables e below (s₁.setTop (mkF m 11 #[.val (.ref b), .val (.int p1), .val (.int (5 : Int32)), .val (.long (q &&& (((1 : Int64) <<< ((32 : Int32) &&& 0x3f).toInt64) - (1 : Int64)))), .second, .val (.int (4 : Int32))] [])) _
    refine XS.lloadN X0.here hx rfl (hb hby d2_11) rfl ?_
    show Steps p.tables e below (s₁.setTop (mkF m 12 #[.val (.ref b), .val (.int p1), .val (.int (5 : Int32)), .val (.long (q &&& (((1 : Int64) <<< ((32 : Int32) &&& 0x3f).toInt64) - (1 : Int64)))), .second, .val (.int (4 : Int32))] [(.long (q &&& (((1 : Int64) <<< ((32 : Int32) &&& 0x3f).toInt64) - (1 : Int64))))])) _
    refine XS.aloadN X0.here hx rfl (hb hby d2_12) rfl rfl ?_
    show Steps p.tables e below (s₁.setTop (mkF m 13 #[.val (.ref b), .val (.int p1), .val (.int (5 : Int32)), .val (.long (q &&& (((1 : Int64) <<< ((32 : Int32) &&& 0x3f).toInt64) - (1 : Int64)))), .second, .val (.int (4 : Int32))] [(.ref b), (.long (q &&& (((1 : Int64) <<< ((32 : Int32) &&& 0x3f).toInt64) - (1 : Int64))))])) _
    refine XS.iloadN X0.here hx rfl (hb hby d2_13) rfl ?_
    show Steps p.tables e below (s₁.setTop (mkF m 14 #[.val (.ref b), .val (.int p1), .val (.int (5 : Int32)), .val (.long (q &&& (((1 : Int64) <<< ((32 : Int32) &&& 0x3f).toInt64) - (1 : Int64)))), .second, .val (.int (4 : Int32))] [(.int p1), (.ref b), (.long (q &&& (((1 : Int64) <<< ((32 : Int32) &&& 0x3f).toInt64) - (1 : Int64))))])) _
    refine XS.iload X0.here hx rfl (hb hby d2_14) rfl ?_
    show Steps p.tables e below (s₁.setTop (mkF m 16 #[.val (.ref b), .val (.int p1), .val (.int (5 : Int32)), .val (.long (q &&& (((1 : Int64) <<< ((32 : Int32) &&& 0x3f).toInt64) - (1 : Int64)))), .second, .val (.int (4 : Int32))] [(.int (4 : Int32)), (.int p1), (.ref b), (.long (q &&& (((1 : Int64) <<< ((32 : Int32) &&& 0x3f).toInt64) - (1 : Int64))))])) _
    refine XS.iadd X0.here hx rfl (hb hby d2_16) rfl ?_
    show Steps p.tables e below (s₁.setTop (mkF m 17 #[.val (.ref b), .val (.int p1), .val (.int (5 : Int32)), .val (.long (q &&& (((1 : Int64) <<< ((32 : Int32) &&& 0x3f).toInt64) - (1 : Int64)))), .second, .val (.int (4 : Int32))] [(.int (p1 + (4 : Int32))), (.ref b), (.long (q &&& (((1 : Int64) <<< ((32 : Int32) &&& 0x3f).toInt64) - (1 : Int64))))])) _
    exact kq)
  obtain ⟨cl56, Ar56, q56, S56, M56, H56, Gf56⟩ := id A
  have hi57 : ¬ ((p1 + (4 : Int32)) < 0 ∨ cl56.slots.size ≤ ((p1 + (4 : Int32))).toNatClampNeg) := (inb_of S56 (hat (4 : Int32) (Or.inr (Or.inr (Or.inr (Or.inr (Or.inl rfl)))))).1)
  have G58 : Go p e below A0 (s₁.setTop (mkF m 38 #[.val (.ref b), .val (.int p1), .val (.int (5 : Int32)), .val (.long (q &&& (((1 : Int64) <<< ((40 : Int32) &&& 0x3f).toInt64) - (1 : Int64)))), .second, .val (.int (5 : Int32))] [(.long (q &&& (((1 : Int64) <<< ((40 : Int32) &&& 0x3f).toInt64) - (1 : Int64))))])) := fun tq kq => G55 tq (by
    refine X0.baloadBytes hx (j := (p1 + (4 : Int32))) (v := (.int (own_by q (4 : Int32)))) (by rw [e0]; exact Ar56.1) (State.isArrayOf_alike hZ.alike Ar56.2.1) Ar56.2.2 hi57 (H56.at hi57 (hat (4 : Int32) (Or.inr (Or.inr (Or.inr (Or.inr (Or.inl rfl)))))).2) (g := (mkF m 17 #[.val (.ref b), .val (.int p1), .val (.int (5 : Int32)), .val (.long (q &&& (((1 : Int64) <<< ((32 : Int32) &&& 0x3f).toInt64) - (1 : Int64)))), .second, .val (.int (4 : Int32))] [(.int (p1 + (4 : Int32))), (.ref b), (.long (q &&& (((1 : Int64) <<< ((32 : Int32) &&& 0x3f).toInt64) - (1 : Int64))))])) rfl rfl (hb hby d2_17) _ ?_
    show Steps p.tables e below (s₁.setTop (mkF m 18 #[.val (.ref b), .val (.int p1), .val (.int (5 : Int32)), .val (.long (q &&& (((1 : Int64) <<< ((32 : Int32) &&& 0x3f).toInt64) - (1 : Int64)))), .second, .val (.int (4 : Int32))] [(.int (own_by q (4 : Int32))), (.long (q &&& (((1 : Int64) <<< ((32 : Int32) &&& 0x3f).toInt64) - (1 : Int64))))])) _
    refine XS.sipush X0.here hx rfl (hb hby d2_18) ?_
    show Steps p.tables e below (s₁.setTop (mkF m 21 #[.val (.ref b), .val (.int p1), .val (.int (5 : Int32)), .val (.long (q &&& (((1 : Int64) <<< ((32 : Int32) &&& 0x3f).toInt64) - (1 : Int64)))), .second, .val (.int (4 : Int32))] [(.int (255 : Int32)), (.int (own_by q (4 : Int32))), (.long (q &&& (((1 : Int64) <<< ((32 : Int32) &&& 0x3f).toInt64) - (1 : Int64))))])) _
    refine XS.iand X0.here hx rfl (hb hby d2_21) rfl ?_
    show Steps p.tables e below (s₁.setTop (mkF m 22 #[.val (.ref b), .val (.int p1), .val (.int (5 : Int32)), .val (.long (q &&& (((1 : Int64) <<< ((32 : Int32) &&& 0x3f).toInt64) - (1 : Int64)))), .second, .val (.int (4 : Int32))] [(.int ((own_by q (4 : Int32)) &&& (255 : Int32))), (.long (q &&& (((1 : Int64) <<< ((32 : Int32) &&& 0x3f).toInt64) - (1 : Int64))))])) _
    refine XS.i2l X0.here hx rfl (hb hby d2_22) rfl ?_
    show Steps p.tables e below (s₁.setTop (mkF m 23 #[.val (.ref b), .val (.int p1), .val (.int (5 : Int32)), .val (.long (q &&& (((1 : Int64) <<< ((32 : Int32) &&& 0x3f).toInt64) - (1 : Int64)))), .second, .val (.int (4 : Int32))] [(.long ((own_by q (4 : Int32)) &&& (255 : Int32)).toInt64), (.long (q &&& (((1 : Int64) <<< ((32 : Int32) &&& 0x3f).toInt64) - (1 : Int64))))])) _
    refine XS.bipush X0.here hx rfl (hb hby d2_23) ?_
    show Steps p.tables e below (s₁.setTop (mkF m 25 #[.val (.ref b), .val (.int p1), .val (.int (5 : Int32)), .val (.long (q &&& (((1 : Int64) <<< ((32 : Int32) &&& 0x3f).toInt64) - (1 : Int64)))), .second, .val (.int (4 : Int32))] [(.int (8 : Int32)), (.long ((own_by q (4 : Int32)) &&& (255 : Int32)).toInt64), (.long (q &&& (((1 : Int64) <<< ((32 : Int32) &&& 0x3f).toInt64) - (1 : Int64))))])) _
    refine XS.iload X0.here hx rfl (hb hby d2_25) rfl ?_
    show Steps p.tables e below (s₁.setTop (mkF m 27 #[.val (.ref b), .val (.int p1), .val (.int (5 : Int32)), .val (.long (q &&& (((1 : Int64) <<< ((32 : Int32) &&& 0x3f).toInt64) - (1 : Int64)))), .second, .val (.int (4 : Int32))] [(.int (4 : Int32)), (.int (8 : Int32)), (.long ((own_by q (4 : Int32)) &&& (255 : Int32)).toInt64), (.long (q &&& (((1 : Int64) <<< ((32 : Int32) &&& 0x3f).toInt64) - (1 : Int64))))])) _
    refine XS.imul X0.here hx rfl (hb hby d2_27) rfl ?_
    show Steps p.tables e below (s₁.setTop (mkF m 28 #[.val (.ref b), .val (.int p1), .val (.int (5 : Int32)), .val (.long (q &&& (((1 : Int64) <<< ((32 : Int32) &&& 0x3f).toInt64) - (1 : Int64)))), .second, .val (.int (4 : Int32))] [(.int ((8 : Int32) * (4 : Int32))), (.long ((own_by q (4 : Int32)) &&& (255 : Int32)).toInt64), (.long (q &&& (((1 : Int64) <<< ((32 : Int32) &&& 0x3f).toInt64) - (1 : Int64))))])) _
    rw [show ((8 : Int32) * (4 : Int32)) = (32 : Int32) from (by decide : ((8 : Int32) * (4 : Int32)) = (32 : Int32))]
    show Steps p.tables e below (s₁.setTop (mkF m 28 #[.val (.ref b), .val (.int p1), .val (.int (5 : Int32)), .val (.long (q &&& (((1 : Int64) <<< ((32 : Int32) &&& 0x3f).toInt64) - (1 : Int64)))), .second, .val (.int (4 : Int32))] [(.int (32 : Int32)), (.long ((own_by q (4 : Int32)) &&& (255 : Int32)).toInt64), (.long (q &&& (((1 : Int64) <<< ((32 : Int32) &&& 0x3f).toInt64) - (1 : Int64))))])) _
    refine XS.lshl X0.here hx rfl (hb hby d2_28) rfl ?_
    show Steps p.tables e below (s₁.setTop (mkF m 29 #[.val (.ref b), .val (.int p1), .val (.int (5 : Int32)), .val (.long (q &&& (((1 : Int64) <<< ((32 : Int32) &&& 0x3f).toInt64) - (1 : Int64)))), .second, .val (.int (4 : Int32))] [(.long (((own_by q (4 : Int32)) &&& (255 : Int32)).toInt64 <<< ((32 : Int32) &&& 0x3f).toInt64)), (.long (q &&& (((1 : Int64) <<< ((32 : Int32) &&& 0x3f).toInt64) - (1 : Int64))))])) _
    refine XS.lor X0.here hx rfl (hb hby d2_29) rfl ?_
    show Steps p.tables e below (s₁.setTop (mkF m 30 #[.val (.ref b), .val (.int p1), .val (.int (5 : Int32)), .val (.long (q &&& (((1 : Int64) <<< ((32 : Int32) &&& 0x3f).toInt64) - (1 : Int64)))), .second, .val (.int (4 : Int32))] [(.long ((q &&& (((1 : Int64) <<< ((32 : Int32) &&& 0x3f).toInt64) - (1 : Int64))) ||| (((own_by q (4 : Int32)) &&& (255 : Int32)).toInt64 <<< ((32 : Int32) &&& 0x3f).toInt64)))])) _
    rw [show ((q &&& (((1 : Int64) <<< ((32 : Int32) &&& 0x3f).toInt64) - (1 : Int64))) ||| (((own_by q (4 : Int32)) &&& (255 : Int32)).toInt64 <<< ((32 : Int32) &&& 0x3f).toInt64)) = (q &&& (((1 : Int64) <<< ((40 : Int32) &&& 0x3f).toInt64) - (1 : Int64))) from own_step_4 q]
    show Steps p.tables e below (s₁.setTop (mkF m 30 #[.val (.ref b), .val (.int p1), .val (.int (5 : Int32)), .val (.long (q &&& (((1 : Int64) <<< ((32 : Int32) &&& 0x3f).toInt64) - (1 : Int64)))), .second, .val (.int (4 : Int32))] [(.long (q &&& (((1 : Int64) <<< ((40 : Int32) &&& 0x3f).toInt64) - (1 : Int64))))])) _
    refine XS.lstoreN X0.here hx rfl (hb hby d2_30) rfl (l' := #[.val (.ref b), .val (.int p1), .val (.int (5 : Int32)), .val (.long (q &&& (((1 : Int64) <<< ((40 : Int32) &&& 0x3f).toInt64) - (1 : Int64)))), .second, .val (.int (4 : Int32))]) rfl ?_
    show Steps p.tables e below (s₁.setTop (mkF m 31 #[.val (.ref b), .val (.int p1), .val (.int (5 : Int32)), .val (.long (q &&& (((1 : Int64) <<< ((40 : Int32) &&& 0x3f).toInt64) - (1 : Int64)))), .second, .val (.int (4 : Int32))] [])) _
    refine XS.iinc X0.here hx rfl (hb hby d2_31) rfl (l' := #[.val (.ref b), .val (.int p1), .val (.int (5 : Int32)), .val (.long (q &&& (((1 : Int64) <<< ((40 : Int32) &&& 0x3f).toInt64) - (1 : Int64)))), .second, .val (.int ((4 : Int32) + (1 : Int32)))]) rfl ?_
    show Steps p.tables e below (s₁.setTop (mkF m 34 #[.val (.ref b), .val (.int p1), .val (.int (5 : Int32)), .val (.long (q &&& (((1 : Int64) <<< ((40 : Int32) &&& 0x3f).toInt64) - (1 : Int64)))), .second, .val (.int ((4 : Int32) + (1 : Int32)))] [])) _
    rw [show ((4 : Int32) + (1 : Int32)) = (5 : Int32) from (by decide : ((4 : Int32) + (1 : Int32)) = (5 : Int32))]
    show Steps p.tables e below (s₁.setTop (mkF m 34 #[.val (.ref b), .val (.int p1), .val (.int (5 : Int32)), .val (.long (q &&& (((1 : Int64) <<< ((40 : Int32) &&& 0x3f).toInt64) - (1 : Int64)))), .second, .val (.int (5 : Int32))] [])) _
    refine XS.goto X0.here hx rfl (pc0 := 34) (pc' := 5) rfl (hb hby d2_34) (by decide) (by decide) ?_
    show Steps p.tables e below (s₁.setTop (mkF m 5 #[.val (.ref b), .val (.int p1), .val (.int (5 : Int32)), .val (.long (q &&& (((1 : Int64) <<< ((40 : Int32) &&& 0x3f).toInt64) - (1 : Int64)))), .second, .val (.int (5 : Int32))] [])) _
    refine XS.iload X0.here hx rfl (hb hby d2_5) rfl ?_
    show Steps p.tables e below (s₁.setTop (mkF m 7 #[.val (.ref b), .val (.int p1), .val (.int (5 : Int32)), .val (.long (q &&& (((1 : Int64) <<< ((40 : Int32) &&& 0x3f).toInt64) - (1 : Int64)))), .second, .val (.int (5 : Int32))] [(.int (5 : Int32))])) _
    refine XS.iloadN X0.here hx rfl (hb hby d2_7) rfl ?_
    show Steps p.tables e below (s₁.setTop (mkF m 8 #[.val (.ref b), .val (.int p1), .val (.int (5 : Int32)), .val (.long (q &&& (((1 : Int64) <<< ((40 : Int32) &&& 0x3f).toInt64) - (1 : Int64)))), .second, .val (.int (5 : Int32))] [(.int (5 : Int32)), (.int (5 : Int32))])) _
    refine XS.icmpYes X0.here hx rfl (pc0 := 8) (pc' := 37) rfl (hb hby d2_8) rfl (by decide) (by decide) (by decide) ?_
    show Steps p.tables e below (s₁.setTop (mkF m 37 #[.val (.ref b), .val (.int p1), .val (.int (5 : Int32)), .val (.long (q &&& (((1 : Int64) <<< ((40 : Int32) &&& 0x3f).toInt64) - (1 : Int64)))), .second, .val (.int (5 : Int32))] [])) _
    refine XS.lloadN X0.here hx rfl (hb hby d2_37) rfl ?_
    show Steps p.tables e below (s₁.setTop (mkF m 38 #[.val (.ref b), .val (.int p1), .val (.int (5 : Int32)), .val (.long (q &&& (((1 : Int64) <<< ((40 : Int32) &&& 0x3f).toInt64) - (1 : Int64)))), .second, .val (.int (5 : Int32))] [(.long (q &&& (((1 : Int64) <<< ((40 : Int32) &&& 0x3f).toInt64) - (1 : Int64))))])) _
    exact kq)
  obtain ⟨fs, hr, hrun, hended, hW, hsame⟩ := X0.leave (v := some (.long (q &&& (((1 : Int64) <<< ((40 : Int32) &&& 0x3f).toInt64) - (1 : Int64))))) (fun h => by rw [Bd.returns] at h; cases h)
  refine ⟨_, _, (by rw [← hA0]; exact G58 _ (retOut X0 hx (t := .long) Bd.returns rfl (Or.inr (Or.inl ⟨rfl, rfl, _, rfl⟩)) (hb hby d2_38) hr)), hrun, hended, _, _, rfl, ?_, ⟨_, rfl⟩, hW, hsame.mono (by decide) (by decide)⟩
  exact ⟨rfl, N0, e0⟩
set_option maxRecDepth 65536 in
set_option maxHeartbeats 40000000 in
theorem rm2_6 (l : Launch) (Z : State) (a0 : Array Value) (hw : ∀ d ∈ tables_1, d.before a0 Z = true) (ws : List Jvm.Cond) (b : Addr) (p1 : Int32) (q : Int64) (kb : ClassId) (vs : List Value) (h0 : Heap) (n0 : Nat) (Z0 : n0 ≤ h0.size) (A : Arv Z h0 b kb .byte (12 : Int32) vs (.int (0 : Int32))) (hat : own_Hat vs p1 q) :
    MetFree l (⟨"com/example/ledgerline/ledgerline/format/GrowingBytes", "littleEndian", "([BII)J"⟩ : MethodName) (head1 (Jvm.Cond.code (⟨"com/example/ledgerline/ledgerline/format/GrowingBytes", "littleEndian", "([BII)J"⟩ : MethodName) prog_17_method_11_code 6 (some .long) :: ws) ({ frames := 0, cells := 0, slots := 0, locals := 0 } : Room)) (fun aa UU => aa = #[(.ref b), (.int p1), (.int (6 : Int32))] ∧ Z.Warmed39 UU.vm ∧ UU.heap = h0) (fun _ _ _ _ _ => True) (fun _ UU oo U' => ∃ v L, oo = .returned v ∧ Qr (.long (q &&& (((1 : Int64) <<< ((48 : Int32) &&& 0x3f).toInt64) - (1 : Int64)))) h0 n0 v U'.heap L ∧ FrameEnd UU oo U' L ({ frames := 0, cells := 0, slots := 0, locals := 0 } : Room).cells ({ frames := 0, cells := 0, slots := 0, locals := 0 } : Room).slots) := by
  refine MetFree.of_bodySF (plainFor_of_name pn_1) hisR ?_
  intro p e s m args below meth c s₁ Bd hml0 hP hK
  obtain ⟨rfl, hZ, hh⟩ := hP
  have hx := Bd.exec
  have hby := Bd.bytes
  have hml : c.maxLocals = 6 := hml0
  have hown : s.vm.findClass "com/example/ledgerline/ledgerline/format/GrowingBytes" = some m.cls := findClass_of_methodNamed Bd.named
  have hnm := (name_of_methodNamed Bd.named Bd.method).1
  have X0 : Stand p l e ({ frames := 0, cells := 0, slots := 0, locals := 0 } : Room) s m #[(.ref b), (.int p1), (.int (6 : Int32))] below meth c s₁ [] 0 0 := Stand.of_body Bd
  have e0 : s₁.heap = h0 := by rw [← hh, Bd.state]; rfl
  have N0 := Fr.nil n0
  obtain ⟨A0, hA0⟩ : ∃ A, A = s₁.setTop (entryFrame m #[(.ref b), (.int p1), (.int (6 : Int32))] 6) := ⟨_, rfl⟩
  have G0 : Go p e below A0 (s₁.setTop (mkF m 0 #[.val (.ref b), .val (.int p1), .val (.int (6 : Int32)), .unset, .unset, .unset] [])) := fun tq kq => by rw [hA0]; exact castTop (ef_rm2_6 m b p1 (6 : Int32)) kq
  have G59 : Go p e below A0 (s₁.setTop (mkF m 17 #[.val (.ref b), .val (.int p1), .val (.int (6 : Int32)), .val (.long (0 : Int64)), .second, .val (.int (0 : Int32))] [(.int (p1 + (0 : Int32))), (.ref b), (.long (0 : Int64))])) := fun tq kq => G0 tq (by
    refine XS.lconst X0.here hx rfl (hb hby d2_0) ?_
    show Steps p.tables e below (s₁.setTop (mkF m 1 #[.val (.ref b), .val (.int p1), .val (.int (6 : Int32)), .unset, .unset, .unset] [(.long (0 : Int64))])) _
    refine XS.lstoreN X0.here hx rfl (hb hby d2_1) rfl (l' := #[.val (.ref b), .val (.int p1), .val (.int (6 : Int32)), .val (.long (0 : Int64)), .second, .unset]) rfl ?_
    show Steps p.tables e below (s₁.setTop (mkF m 2 #[.val (.ref b), .val (.int p1), .val (.int (6 : Int32)), .val (.long (0 : Int64)), .second, .unset] [])) _
    refine XS.iconst X0.here hx rfl (hb hby d2_2) ?_
    show Steps p.tables e below (s₁.setTop (mkF m 3 #[.val (.ref b), .val (.int p1), .val (.int (6 : Int32)), .val (.long (0 : Int64)), .second, .unset] [(.int (0 : Int32))])) _
    refine XS.istore X0.here hx rfl (hb hby d2_3) rfl (l' := #[.val (.ref b), .val (.int p1), .val (.int (6 : Int32)), .val (.long (0 : Int64)), .second, .val (.int (0 : Int32))]) rfl ?_
    show Steps p.tables e below (s₁.setTop (mkF m 5 #[.val (.ref b), .val (.int p1), .val (.int (6 : Int32)), .val (.long (0 : Int64)), .second, .val (.int (0 : Int32))] [])) _
    refine XS.iload X0.here hx rfl (hb hby d2_5) rfl ?_
    show Steps p.tables e below (s₁.setTop (mkF m 7 #[.val (.ref b), .val (.int p1), .val (.int (6 : Int32)), .val (.long (0 : Int64)), .second, .val (.int (0 : Int32))] [(.int (0 : Int32))])) _
    refine XS.iloadN X0.here hx rfl (hb hby d2_7) rfl ?_
    show Steps p.tables e below (s₁.setTop (mkF m 8 #[.val (.ref b), .val (.int p1), .val (.int (6 : Int32)), .val (.long (0 : Int64)), .second, .val (.int (0 : Int32))] [(.int (6 : Int32)), (.int (0 : Int32))])) _
    refine XS.icmpNo X0.here hx rfl (hb hby d2_8) rfl (by decide) ?_
    show Steps p.tables e below (s₁.setTop (mkF m 11 #[.val (.ref b), .val (.int p1), .val (.int (6 : Int32)), .val (.long (0 : Int64)), .second, .val (.int (0 : Int32))] [])) _
    refine XS.lloadN X0.here hx rfl (hb hby d2_11) rfl ?_
    show Steps p.tables e below (s₁.setTop (mkF m 12 #[.val (.ref b), .val (.int p1), .val (.int (6 : Int32)), .val (.long (0 : Int64)), .second, .val (.int (0 : Int32))] [(.long (0 : Int64))])) _
    refine XS.aloadN X0.here hx rfl (hb hby d2_12) rfl rfl ?_
    show Steps p.tables e below (s₁.setTop (mkF m 13 #[.val (.ref b), .val (.int p1), .val (.int (6 : Int32)), .val (.long (0 : Int64)), .second, .val (.int (0 : Int32))] [(.ref b), (.long (0 : Int64))])) _
    refine XS.iloadN X0.here hx rfl (hb hby d2_13) rfl ?_
    show Steps p.tables e below (s₁.setTop (mkF m 14 #[.val (.ref b), .val (.int p1), .val (.int (6 : Int32)), .val (.long (0 : Int64)), .second, .val (.int (0 : Int32))] [(.int p1), (.ref b), (.long (0 : Int64))])) _
    refine XS.iload X0.here hx rfl (hb hby d2_14) rfl ?_
    show Steps p.tables e below (s₁.setTop (mkF m 16 #[.val (.ref b), .val (.int p1), .val (.int (6 : Int32)), .val (.long (0 : Int64)), .second, .val (.int (0 : Int32))] [(.int (0 : Int32)), (.int p1), (.ref b), (.long (0 : Int64))])) _
    refine XS.iadd X0.here hx rfl (hb hby d2_16) rfl ?_
    show Steps p.tables e below (s₁.setTop (mkF m 17 #[.val (.ref b), .val (.int p1), .val (.int (6 : Int32)), .val (.long (0 : Int64)), .second, .val (.int (0 : Int32))] [(.int (p1 + (0 : Int32))), (.ref b), (.long (0 : Int64))])) _
    exact kq)
  obtain ⟨cl60, Ar60, q60, S60, M60, H60, Gf60⟩ := id A
  have hi61 : ¬ ((p1 + (0 : Int32)) < 0 ∨ cl60.slots.size ≤ ((p1 + (0 : Int32))).toNatClampNeg) := (inb_of S60 (hat (0 : Int32) (Or.inl rfl)).1)
  have G62 : Go p e below A0 (s₁.setTop (mkF m 17 #[.val (.ref b), .val (.int p1), .val (.int (6 : Int32)), .val (.long (q &&& (((1 : Int64) <<< ((8 : Int32) &&& 0x3f).toInt64) - (1 : Int64)))), .second, .val (.int (1 : Int32))] [(.int (p1 + (1 : Int32))), (.ref b), (.long (q &&& (((1 : Int64) <<< ((8 : Int32) &&& 0x3f).toInt64) - (1 : Int64))))])) := fun tq kq => G59 tq (by
    refine X0.baloadBytes hx (j := (p1 + (0 : Int32))) (v := (.int (own_by q (0 : Int32)))) (by rw [e0]; exact Ar60.1) (State.isArrayOf_alike hZ.alike Ar60.2.1) Ar60.2.2 hi61 (H60.at hi61 (hat (0 : Int32) (Or.inl rfl)).2) (g := (mkF m 17 #[.val (.ref b), .val (.int p1), .val (.int (6 : Int32)), .val (.long (0 : Int64)), .second, .val (.int (0 : Int32))] [(.int (p1 + (0 : Int32))), (.ref b), (.long (0 : Int64))])) rfl rfl (hb hby d2_17) _ ?_
    show Steps p.tables e below (s₁.setTop (mkF m 18 #[.val (.ref b), .val (.int p1), .val (.int (6 : Int32)), .val (.long (0 : Int64)), .second, .val (.int (0 : Int32))] [(.int (own_by q (0 : Int32))), (.long (0 : Int64))])) _
    refine XS.sipush X0.here hx rfl (hb hby d2_18) ?_
    show Steps p.tables e below (s₁.setTop (mkF m 21 #[.val (.ref b), .val (.int p1), .val (.int (6 : Int32)), .val (.long (0 : Int64)), .second, .val (.int (0 : Int32))] [(.int (255 : Int32)), (.int (own_by q (0 : Int32))), (.long (0 : Int64))])) _
    refine XS.iand X0.here hx rfl (hb hby d2_21) rfl ?_
    show Steps p.tables e below (s₁.setTop (mkF m 22 #[.val (.ref b), .val (.int p1), .val (.int (6 : Int32)), .val (.long (0 : Int64)), .second, .val (.int (0 : Int32))] [(.int ((own_by q (0 : Int32)) &&& (255 : Int32))), (.long (0 : Int64))])) _
    refine XS.i2l X0.here hx rfl (hb hby d2_22) rfl ?_
    show Steps p.tables e below (s₁.setTop (mkF m 23 #[.val (.ref b), .val (.int p1), .val (.int (6 : Int32)), .val (.long (0 : Int64)), .second, .val (.int (0 : Int32))] [(.long ((own_by q (0 : Int32)) &&& (255 : Int32)).toInt64), (.long (0 : Int64))])) _
    refine XS.bipush X0.here hx rfl (hb hby d2_23) ?_
    show Steps p.tables e below (s₁.setTop (mkF m 25 #[.val (.ref b), .val (.int p1), .val (.int (6 : Int32)), .val (.long (0 : Int64)), .second, .val (.int (0 : Int32))] [(.int (8 : Int32)), (.long ((own_by q (0 : Int32)) &&& (255 : Int32)).toInt64), (.long (0 : Int64))])) _
    refine XS.iload X0.here hx rfl (hb hby d2_25) rfl ?_
    show Steps p.tables e below (s₁.setTop (mkF m 27 #[.val (.ref b), .val (.int p1), .val (.int (6 : Int32)), .val (.long (0 : Int64)), .second, .val (.int (0 : Int32))] [(.int (0 : Int32)), (.int (8 : Int32)), (.long ((own_by q (0 : Int32)) &&& (255 : Int32)).toInt64), (.long (0 : Int64))])) _
    refine XS.imul X0.here hx rfl (hb hby d2_27) rfl ?_
    show Steps p.tables e below (s₁.setTop (mkF m 28 #[.val (.ref b), .val (.int p1), .val (.int (6 : Int32)), .val (.long (0 : Int64)), .second, .val (.int (0 : Int32))] [(.int ((8 : Int32) * (0 : Int32))), (.long ((own_by q (0 : Int32)) &&& (255 : Int32)).toInt64), (.long (0 : Int64))])) _
    rw [show ((8 : Int32) * (0 : Int32)) = (0 : Int32) from (by decide : ((8 : Int32) * (0 : Int32)) = (0 : Int32))]
    show Steps p.tables e below (s₁.setTop (mkF m 28 #[.val (.ref b), .val (.int p1), .val (.int (6 : Int32)), .val (.long (0 : Int64)), .second, .val (.int (0 : Int32))] [(.int (0 : Int32)), (.long ((own_by q (0 : Int32)) &&& (255 : Int32)).toInt64), (.long (0 : Int64))])) _
    refine XS.lshl X0.here hx rfl (hb hby d2_28) rfl ?_
    show Steps p.tables e below (s₁.setTop (mkF m 29 #[.val (.ref b), .val (.int p1), .val (.int (6 : Int32)), .val (.long (0 : Int64)), .second, .val (.int (0 : Int32))] [(.long (((own_by q (0 : Int32)) &&& (255 : Int32)).toInt64 <<< ((0 : Int32) &&& 0x3f).toInt64)), (.long (0 : Int64))])) _
    refine XS.lor X0.here hx rfl (hb hby d2_29) rfl ?_
    show Steps p.tables e below (s₁.setTop (mkF m 30 #[.val (.ref b), .val (.int p1), .val (.int (6 : Int32)), .val (.long (0 : Int64)), .second, .val (.int (0 : Int32))] [(.long ((0 : Int64) ||| (((own_by q (0 : Int32)) &&& (255 : Int32)).toInt64 <<< ((0 : Int32) &&& 0x3f).toInt64)))])) _
    rw [show ((0 : Int64) ||| (((own_by q (0 : Int32)) &&& (255 : Int32)).toInt64 <<< ((0 : Int32) &&& 0x3f).toInt64)) = (q &&& (((1 : Int64) <<< ((8 : Int32) &&& 0x3f).toInt64) - (1 : Int64))) from own_step_0 q]
    show Steps p.tables e below (s₁.setTop (mkF m 30 #[.val (.ref b), .val (.int p1), .val (.int (6 : Int32)), .val (.long (0 : Int64)), .second, .val (.int (0 : Int32))] [(.long (q &&& (((1 : Int64) <<< ((8 : Int32) &&& 0x3f).toInt64) - (1 : Int64))))])) _
    refine XS.lstoreN X0.here hx rfl (hb hby d2_30) rfl (l' := #[.val (.ref b), .val (.int p1), .val (.int (6 : Int32)), .val (.long (q &&& (((1 : Int64) <<< ((8 : Int32) &&& 0x3f).toInt64) - (1 : Int64)))), .second, .val (.int (0 : Int32))]) rfl ?_
    show Steps p.tables e below (s₁.setTop (mkF m 31 #[.val (.ref b), .val (.int p1), .val (.int (6 : Int32)), .val (.long (q &&& (((1 : Int64) <<< ((8 : Int32) &&& 0x3f).toInt64) - (1 : Int64)))), .second, .val (.int (0 : Int32))] [])) _
    refine XS.iinc X0.here hx rfl (hb hby d2_31) rfl (l' := #[.val (.ref b), .val (.int p1), .val (.int (6 : Int32)), .val (.long (q &&& (((1 : Int64) <<< ((8 : Int32) &&& 0x3f).toInt64) - (1 : Int64)))), .second, .val (.int ((0 : Int32) + (1 : Int32)))]) rfl ?_
    show Steps p.tables e below (s₁.setTop (mkF m 34 #[.val (.ref b), .val (.int p1), .val (.int (6 : Int32)), .val (.long (q &&& (((1 : Int64) <<< ((8 : Int32) &&& 0x3f).toInt64) - (1 : Int64)))), .second, .val (.int ((0 : Int32) + (1 : Int32)))] [])) _
    rw [show ((0 : Int32) + (1 : Int32)) = (1 : Int32) from (by decide : ((0 : Int32) + (1 : Int32)) = (1 : Int32))]
    show Steps p.tables e below (s₁.setTop (mkF m 34 #[.val (.ref b), .val (.int p1), .val (.int (6 : Int32)), .val (.long (q &&& (((1 : Int64) <<< ((8 : Int32) &&& 0x3f).toInt64) - (1 : Int64)))), .second, .val (.int (1 : Int32))] [])) _
    refine XS.goto X0.here hx rfl (pc0 := 34) (pc' := 5) rfl (hb hby d2_34) (by decide) (by decide) ?_
    show Steps p.tables e below (s₁.setTop (mkF m 5 #[.val (.ref b), .val (.int p1), .val (.int (6 : Int32)), .val (.long (q &&& (((1 : Int64) <<< ((8 : Int32) &&& 0x3f).toInt64) - (1 : Int64)))), .second, .val (.int (1 : Int32))] [])) _
    refine XS.iload X0.here hx rfl (hb hby d2_5) rfl ?_
    show Steps p.tables e below (s₁.setTop (mkF m 7 #[.val (.ref b), .val (.int p1), .val (.int (6 : Int32)), .val (.long (q &&& (((1 : Int64) <<< ((8 : Int32) &&& 0x3f).toInt64) - (1 : Int64)))), .second, .val (.int (1 : Int32))] [(.int (1 : Int32))])) _
    refine XS.iloadN X0.here hx rfl (hb hby d2_7) rfl ?_
    show Steps p.tables e below (s₁.setTop (mkF m 8 #[.val (.ref b), .val (.int p1), .val (.int (6 : Int32)), .val (.long (q &&& (((1 : Int64) <<< ((8 : Int32) &&& 0x3f).toInt64) - (1 : Int64)))), .second, .val (.int (1 : Int32))] [(.int (6 : Int32)), (.int (1 : Int32))])) _
    refine XS.icmpNo X0.here hx rfl (hb hby d2_8) rfl (by decide) ?_
    show Steps p.tables e below (s₁.setTop (mkF m 11 #[.val (.ref b), .val (.int p1), .val (.int (6 : Int32)), .val (.long (q &&& (((1 : Int64) <<< ((8 : Int32) &&& 0x3f).toInt64) - (1 : Int64)))), .second, .val (.int (1 : Int32))] [])) _
    refine XS.lloadN X0.here hx rfl (hb hby d2_11) rfl ?_
    show Steps p.tables e below (s₁.setTop (mkF m 12 #[.val (.ref b), .val (.int p1), .val (.int (6 : Int32)), .val (.long (q &&& (((1 : Int64) <<< ((8 : Int32) &&& 0x3f).toInt64) - (1 : Int64)))), .second, .val (.int (1 : Int32))] [(.long (q &&& (((1 : Int64) <<< ((8 : Int32) &&& 0x3f).toInt64) - (1 : Int64))))])) _
    refine XS.aloadN X0.here hx rfl (hb hby d2_12) rfl rfl ?_
    show Steps p.tables e below (s₁.setTop (mkF m 13 #[.val (.ref b), .val (.int p1), .val (.int (6 : Int32)), .val (.long (q &&& (((1 : Int64) <<< ((8 : Int32) &&& 0x3f).toInt64) - (1 : Int64)))), .second, .val (.int (1 : Int32))] [(.ref b), (.long (q &&& (((1 : Int64) <<< ((8 : Int32) &&& 0x3f).toInt64) - (1 : Int64))))])) _
    refine XS.iloadN X0.here hx rfl (hb hby d2_13) rfl ?_
    show Steps p.tables e below (s₁.setTop (mkF m 14 #[.val (.ref b), .val (.int p1), .val (.int (6 : Int32)), .val (.long (q &&& (((1 : Int64) <<< ((8 : Int32) &&& 0x3f).toInt64) - (1 : Int64)))), .second, .val (.int (1 : Int32))] [(.int p1), (.ref b), (.long (q &&& (((1 : Int64) <<< ((8 : Int32) &&& 0x3f).toInt64) - (1 : Int64))))])) _
    refine XS.iload X0.here hx rfl (hb hby d2_14) rfl ?_
    show Steps p.tables e below (s₁.setTop (mkF m 16 #[.val (.ref b), .val (.int p1), .val (.int (6 : Int32)), .val (.long (q &&& (((1 : Int64) <<< ((8 : Int32) &&& 0x3f).toInt64) - (1 : Int64)))), .second, .val (.int (1 : Int32))] [(.int (1 : Int32)), (.int p1), (.ref b), (.long (q &&& (((1 : Int64) <<< ((8 : Int32) &&& 0x3f).toInt64) - (1 : Int64))))])) _
    refine XS.iadd X0.here hx rfl (hb hby d2_16) rfl ?_
    show Steps p.tables e below (s₁.setTop (mkF m 17 #[.val (.ref b), .val (.int p1), .val (.int (6 : Int32)), .val (.long (q &&& (((1 : Int64) <<< ((8 : Int32) &&& 0x3f).toInt64) - (1 : Int64)))), .second, .val (.int (1 : Int32))] [(.int (p1 + (1 : Int32))), (.ref b), (.long (q &&& (((1 : Int64) <<< ((8 : Int32) &&& 0x3f).toInt64) - (1 : Int64))))])) _
    exact kq)
  obtain ⟨cl63, Ar63, q63, S63, M63, H63, Gf63⟩ := id A
  have hi64 : ¬ ((p1 + (1 : Int32)) < 0 ∨ cl63.slots.size ≤ ((p1 + (1 : Int32))).toNatClampNeg) := (inb_of S63 (hat (1 : Int32) (Or.inr (Or.inl rfl))).1)
  have G65 : Go p e below A0 (s₁.setTop (mkF m 17 #[.val (.ref b), .val (.int p1), .val (.int (6 : Int32)), .val (.long (q &&& (((1 : Int64) <<< ((16 : Int32) &&& 0x3f).toInt64) - (1 : Int64)))), .second, .val (.int (2 : Int32))] [(.int (p1 + (2 : Int32))), (.ref b), (.long (q &&& (((1 : Int64) <<< ((16 : Int32) &&& 0x3f).toInt64) - (1 : Int64))))])) := fun tq kq => G62 tq (by
    refine X0.baloadBytes hx (j := (p1 + (1 : Int32))) (v := (.int (own_by q (1 : Int32)))) (by rw [e0]; exact Ar63.1) (State.isArrayOf_alike hZ.alike Ar63.2.1) Ar63.2.2 hi64 (H63.at hi64 (hat (1 : Int32) (Or.inr (Or.inl rfl))).2) (g := (mkF m 17 #[.val (.ref b), .val (.int p1), .val (.int (6 : Int32)), .val (.long (q &&& (((1 : Int64) <<< ((8 : Int32) &&& 0x3f).toInt64) - (1 : Int64)))), .second, .val (.int (1 : Int32))] [(.int (p1 + (1 : Int32))), (.ref b), (.long (q &&& (((1 : Int64) <<< ((8 : Int32) &&& 0x3f).toInt64) - (1 : Int64))))])) rfl rfl (hb hby d2_17) _ ?_
    show Steps p.tables e below (s₁.setTop (mkF m 18 #[.val (.ref b), .val (.int p1), .val (.int (6 : Int32)), .val (.long (q &&& (((1 : Int64) <<< ((8 : Int32) &&& 0x3f).toInt64) - (1 : Int64)))), .second, .val (.int (1 : Int32))] [(.int (own_by q (1 : Int32))), (.long (q &&& (((1 : Int64) <<< ((8 : Int32) &&& 0x3f).toInt64) - (1 : Int64))))])) _
    refine XS.sipush X0.here hx rfl (hb hby d2_18) ?_
    show Steps p.tables e below (s₁.setTop (mkF m 21 #[.val (.ref b), .val (.int p1), .val (.int (6 : Int32)), .val (.long (q &&& (((1 : Int64) <<< ((8 : Int32) &&& 0x3f).toInt64) - (1 : Int64)))), .second, .val (.int (1 : Int32))] [(.int (255 : Int32)), (.int (own_by q (1 : Int32))), (.long (q &&& (((1 : Int64) <<< ((8 : Int32) &&& 0x3f).toInt64) - (1 : Int64))))])) _
    refine XS.iand X0.here hx rfl (hb hby d2_21) rfl ?_
    show Steps p.tables e below (s₁.setTop (mkF m 22 #[.val (.ref b), .val (.int p1), .val (.int (6 : Int32)), .val (.long (q &&& (((1 : Int64) <<< ((8 : Int32) &&& 0x3f).toInt64) - (1 : Int64)))), .second, .val (.int (1 : Int32))] [(.int ((own_by q (1 : Int32)) &&& (255 : Int32))), (.long (q &&& (((1 : Int64) <<< ((8 : Int32) &&& 0x3f).toInt64) - (1 : Int64))))])) _
    refine XS.i2l X0.here hx rfl (hb hby d2_22) rfl ?_
    show Steps p.tables e below (s₁.setTop (mkF m 23 #[.val (.ref b), .val (.int p1), .val (.int (6 : Int32)), .val (.long (q &&& (((1 : Int64) <<< ((8 : Int32) &&& 0x3f).toInt64) - (1 : Int64)))), .second, .val (.int (1 : Int32))] [(.long ((own_by q (1 : Int32)) &&& (255 : Int32)).toInt64), (.long (q &&& (((1 : Int64) <<< ((8 : Int32) &&& 0x3f).toInt64) - (1 : Int64))))])) _
    refine XS.bipush X0.here hx rfl (hb hby d2_23) ?_
    show Steps p.tables e below (s₁.setTop (mkF m 25 #[.val (.ref b), .val (.int p1), .val (.int (6 : Int32)), .val (.long (q &&& (((1 : Int64) <<< ((8 : Int32) &&& 0x3f).toInt64) - (1 : Int64)))), .second, .val (.int (1 : Int32))] [(.int (8 : Int32)), (.long ((own_by q (1 : Int32)) &&& (255 : Int32)).toInt64), (.long (q &&& (((1 : Int64) <<< ((8 : Int32) &&& 0x3f).toInt64) - (1 : Int64))))])) _
    refine XS.iload X0.here hx rfl (hb hby d2_25) rfl ?_
    show Steps p.tables e below (s₁.setTop (mkF m 27 #[.val (.ref b), .val (.int p1), .val (.int (6 : Int32)), .val (.long (q &&& (((1 : Int64) <<< ((8 : Int32) &&& 0x3f).toInt64) - (1 : Int64)))), .second, .val (.int (1 : Int32))] [(.int (1 : Int32)), (.int (8 : Int32)), (.long ((own_by q (1 : Int32)) &&& (255 : Int32)).toInt64), (.long (q &&& (((1 : Int64) <<< ((8 : Int32) &&& 0x3f).toInt64) - (1 : Int64))))])) _
    refine XS.imul X0.here hx rfl (hb hby d2_27) rfl ?_
    show Steps p.tables e below (s₁.setTop (mkF m 28 #[.val (.ref b), .val (.int p1), .val (.int (6 : Int32)), .val (.long (q &&& (((1 : Int64) <<< ((8 : Int32) &&& 0x3f).toInt64) - (1 : Int64)))), .second, .val (.int (1 : Int32))] [(.int ((8 : Int32) * (1 : Int32))), (.long ((own_by q (1 : Int32)) &&& (255 : Int32)).toInt64), (.long (q &&& (((1 : Int64) <<< ((8 : Int32) &&& 0x3f).toInt64) - (1 : Int64))))])) _
    rw [show ((8 : Int32) * (1 : Int32)) = (8 : Int32) from (by decide : ((8 : Int32) * (1 : Int32)) = (8 : Int32))]
    show Steps p.tables e below (s₁.setTop (mkF m 28 #[.val (.ref b), .val (.int p1), .val (.int (6 : Int32)), .val (.long (q &&& (((1 : Int64) <<< ((8 : Int32) &&& 0x3f).toInt64) - (1 : Int64)))), .second, .val (.int (1 : Int32))] [(.int (8 : Int32)), (.long ((own_by q (1 : Int32)) &&& (255 : Int32)).toInt64), (.long (q &&& (((1 : Int64) <<< ((8 : Int32) &&& 0x3f).toInt64) - (1 : Int64))))])) _
    refine XS.lshl X0.here hx rfl (hb hby d2_28) rfl ?_
    show Steps p.tables e below (s₁.setTop (mkF m 29 #[.val (.ref b), .val (.int p1), .val (.int (6 : Int32)), .val (.long (q &&& (((1 : Int64) <<< ((8 : Int32) &&& 0x3f).toInt64) - (1 : Int64)))), .second, .val (.int (1 : Int32))] [(.long (((own_by q (1 : Int32)) &&& (255 : Int32)).toInt64 <<< ((8 : Int32) &&& 0x3f).toInt64)), (.long (q &&& (((1 : Int64) <<< ((8 : Int32) &&& 0x3f).toInt64) - (1 : Int64))))])) _
    refine XS.lor X0.here hx rfl (hb hby d2_29) rfl ?_
    show Steps p.tables e below (s₁.setTop (mkF m 30 #[.val (.ref b), .val (.int p1), .val (.int (6 : Int32)), .val (.long (q &&& (((1 : Int64) <<< ((8 : Int32) &&& 0x3f).toInt64) - (1 : Int64)))), .second, .val (.int (1 : Int32))] [(.long ((q &&& (((1 : Int64) <<< ((8 : Int32) &&& 0x3f).toInt64) - (1 : Int64))) ||| (((own_by q (1 : Int32)) &&& (255 : Int32)).toInt64 <<< ((8 : Int32) &&& 0x3f).toInt64)))])) _
    rw [show ((q &&& (((1 : Int64) <<< ((8 : Int32) &&& 0x3f).toInt64) - (1 : Int64))) ||| (((own_by q (1 : Int32)) &&& (255 : Int32)).toInt64 <<< ((8 : Int32) &&& 0x3f).toInt64)) = (q &&& (((1 : Int64) <<< ((16 : Int32) &&& 0x3f).toInt64) - (1 : Int64))) from own_step_1 q]
    show Steps p.tables e below (s₁.setTop (mkF m 30 #[.val (.ref b), .val (.int p1), .val (.int (6 : Int32)), .val (.long (q &&& (((1 : Int64) <<< ((8 : Int32) &&& 0x3f).toInt64) - (1 : Int64)))), .second, .val (.int (1 : Int32))] [(.long (q &&& (((1 : Int64) <<< ((16 : Int32) &&& 0x3f).toInt64) - (1 : Int64))))])) _
    refine XS.lstoreN X0.here hx rfl (hb hby d2_30) rfl (l' := #[.val (.ref b), .val (.int p1), .val (.int (6 : Int32)), .val (.long (q &&& (((1 : Int64) <<< ((16 : Int32) &&& 0x3f).toInt64) - (1 : Int64)))), .second, .val (.int (1 : Int32))]) rfl ?_
    show Steps p.tables e below (s₁.setTop (mkF m 31 #[.val (.ref b), .val (.int p1), .val (.int (6 : Int32)), .val (.long (q &&& (((1 : Int64) <<< ((16 : Int32) &&& 0x3f).toInt64) - (1 : Int64)))), .second, .val (.int (1 : Int32))] [])) _
    refine XS.iinc X0.here hx rfl (hb hby d2_31) rfl (l' := #[.val (.ref b), .val (.int p1), .val (.int (6 : Int32)), .val (.long (q &&& (((1 : Int64) <<< ((16 : Int32) &&& 0x3f).toInt64) - (1 : Int64)))), .second, .val (.int ((1 : Int32) + (1 : Int32)))]) rfl ?_
    show Steps p.tables e below (s₁.setTop (mkF m 34 #[.val (.ref b), .val (.int p1), .val (.int (6 : Int32)), .val (.long (q &&& (((1 : Int64) <<< ((16 : Int32) &&& 0x3f).toInt64) - (1 : Int64)))), .second, .val (.int ((1 : Int32) + (1 : Int32)))] [])) _
    rw [show ((1 : Int32) + (1 : Int32)) = (2 : Int32) from (by decide : ((1 : Int32) + (1 : Int32)) = (2 : Int32))]
    show Steps p.tables e below (s₁.setTop (mkF m 34 #[.val (.ref b), .val (.int p1), .val (.int (6 : Int32)), .val (.long (q &&& (((1 : Int64) <<< ((16 : Int32) &&& 0x3f).toInt64) - (1 : Int64)))), .second, .val (.int (2 : Int32))] [])) _
    refine XS.goto X0.here hx rfl (pc0 := 34) (pc' := 5) rfl (hb hby d2_34) (by decide) (by decide) ?_
    show Steps p.tables e below (s₁.setTop (mkF m 5 #[.val (.ref b), .val (.int p1), .val (.int (6 : Int32)), .val (.long (q &&& (((1 : Int64) <<< ((16 : Int32) &&& 0x3f).toInt64) - (1 : Int64)))), .second, .val (.int (2 : Int32))] [])) _
    refine XS.iload X0.here hx rfl (hb hby d2_5) rfl ?_
    show Steps p.tables e below (s₁.setTop (mkF m 7 #[.val (.ref b), .val (.int p1), .val (.int (6 : Int32)), .val (.long (q &&& (((1 : Int64) <<< ((16 : Int32) &&& 0x3f).toInt64) - (1 : Int64)))), .second, .val (.int (2 : Int32))] [(.int (2 : Int32))])) _
    refine XS.iloadN X0.here hx rfl (hb hby d2_7) rfl ?_
    show Steps p.tables e below (s₁.setTop (mkF m 8 #[.val (.ref b), .val (.int p1), .val (.int (6 : Int32)), .val (.long (q &&& (((1 : Int64) <<< ((16 : Int32) &&& 0x3f).toInt64) - (1 : Int64)))), .second, .val (.int (2 : Int32))] [(.int (6 : Int32)), (.int (2 : Int32))])) _
    refine XS.icmpNo X0.here hx rfl (hb hby d2_8) rfl (by decide) ?_
    show Steps p.tables e below (s₁.setTop (mkF m 11 #[.val (.ref b), .val (.int p1), .val (.int (6 : Int32)), .val (.long (q &&& (((1 : Int64) <<< ((16 : Int32) &&& 0x3f).toInt64) - (1 : Int64)))), .second, .val (.int (2 : Int32))] [])) _
    refine XS.lloadN X0.here hx rfl (hb hby d2_11) rfl ?_
    show Steps p.tables e below (s₁.setTop (mkF m 12 #[.val (.ref b), .val (.int p1), .val (.int (6 : Int32)), .val (.long (q &&& (((1 : Int64) <<< ((16 : Int32) &&& 0x3f).toInt64) - (1 : Int64)))), .second, .val (.int (2 : Int32))] [(.long (q &&& (((1 : Int64) <<< ((16 : Int32) &&& 0x3f).toInt64) - (1 : Int64))))])) _
    refine XS.aloadN X0.here hx rfl (hb hby d2_12) rfl rfl ?_
    show Steps p.tables e below (s₁.setTop (mkF m 13 #[.val (.ref b), .val (.int p1), .val (.int (6 : Int32)), .val (.long (q &&& (((1 : Int64) <<< ((16 : Int32) &&& 0x3f).toInt64) - (1 : Int64)))), .second, .val (.int (2 : Int32))] [(.ref b), (.long (q &&& (((1 : Int64) <<< ((16 : Int32) &&& 0x3f).toInt64) - (1 : Int64))))])) _
    refine XS.iloadN X0.here hx rfl (hb hby d2_13) rfl ?_
    show Steps p.tables e below (s₁.setTop (mkF m 14 #[.val (.ref b), .val (.int p1), .val (.int (6 : Int32)), .val (.long (q &&& (((1 : Int64) <<< ((16 : Int32) &&& 0x3f).toInt64) - (1 : Int64)))), .second, .val (.int (2 : Int32))] [(.int p1), (.ref b), (.long (q &&& (((1 : Int64) <<< ((16 : Int32) &&& 0x3f).toInt64) - (1 : Int64))))])) _
    refine XS.iload X0.here hx rfl (hb hby d2_14) rfl ?_
    show Steps p.tables e below (s₁.setTop (mkF m 16 #[.val (.ref b), .val (.int p1), .val (.int (6 : Int32)), .val (.long (q &&& (((1 : Int64) <<< ((16 : Int32) &&& 0x3f).toInt64) - (1 : Int64)))), .second, .val (.int (2 : Int32))] [(.int (2 : Int32)), (.int p1), (.ref b), (.long (q &&& (((1 : Int64) <<< ((16 : Int32) &&& 0x3f).toInt64) - (1 : Int64))))])) _
    refine XS.iadd X0.here hx rfl (hb hby d2_16) rfl ?_
    show Steps p.tables e below (s₁.setTop (mkF m 17 #[.val (.ref b), .val (.int p1), .val (.int (6 : Int32)), .val (.long (q &&& (((1 : Int64) <<< ((16 : Int32) &&& 0x3f).toInt64) - (1 : Int64)))), .second, .val (.int (2 : Int32))] [(.int (p1 + (2 : Int32))), (.ref b), (.long (q &&& (((1 : Int64) <<< ((16 : Int32) &&& 0x3f).toInt64) - (1 : Int64))))])) _
    exact kq)
  obtain ⟨cl66, Ar66, q66, S66, M66, H66, Gf66⟩ := id A
  have hi67 : ¬ ((p1 + (2 : Int32)) < 0 ∨ cl66.slots.size ≤ ((p1 + (2 : Int32))).toNatClampNeg) := (inb_of S66 (hat (2 : Int32) (Or.inr (Or.inr (Or.inl rfl)))).1)
  have G68 : Go p e below A0 (s₁.setTop (mkF m 17 #[.val (.ref b), .val (.int p1), .val (.int (6 : Int32)), .val (.long (q &&& (((1 : Int64) <<< ((24 : Int32) &&& 0x3f).toInt64) - (1 : Int64)))), .second, .val (.int (3 : Int32))] [(.int (p1 + (3 : Int32))), (.ref b), (.long (q &&& (((1 : Int64) <<< ((24 : Int32) &&& 0x3f).toInt64) - (1 : Int64))))])) := fun tq kq => G65 tq (by
    refine X0.baloadBytes hx (j := (p1 + (2 : Int32))) (v := (.int (own_by q (2 : Int32)))) (by rw [e0]; exact Ar66.1) (State.isArrayOf_alike hZ.alike Ar66.2.1) Ar66.2.2 hi67 (H66.at hi67 (hat (2 : Int32) (Or.inr (Or.inr (Or.inl rfl)))).2) (g := (mkF m 17 #[.val (.ref b), .val (.int p1), .val (.int (6 : Int32)), .val (.long (q &&& (((1 : Int64) <<< ((16 : Int32) &&& 0x3f).toInt64) - (1 : Int64)))), .second, .val (.int (2 : Int32))] [(.int (p1 + (2 : Int32))), (.ref b), (.long (q &&& (((1 : Int64) <<< ((16 : Int32) &&& 0x3f).toInt64) - (1 : Int64))))])) rfl rfl (hb hby d2_17) _ ?_
    show Steps p.tables e below (s₁.setTop (mkF m 18 #[.val (.ref b), .val (.int p1), .val (.int (6 : Int32)), .val (.long (q &&& (((1 : Int64) <<< ((16 : Int32) &&& 0x3f).toInt64) - (1 : Int64)))), .second, .val (.int (2 : Int32))] [(.int (own_by q (2 : Int32))), (.long (q &&& (((1 : Int64) <<< ((16 : Int32) &&& 0x3f).toInt64) - (1 : Int64))))])) _
    refine XS.sipush X0.here hx rfl (hb hby d2_18) ?_
    show Steps p.tables e below (s₁.setTop (mkF m 21 #[.val (.ref b), .val (.int p1), .val (.int (6 : Int32)), .val (.long (q &&& (((1 : Int64) <<< ((16 : Int32) &&& 0x3f).toInt64) - (1 : Int64)))), .second, .val (.int (2 : Int32))] [(.int (255 : Int32)), (.int (own_by q (2 : Int32))), (.long (q &&& (((1 : Int64) <<< ((16 : Int32) &&& 0x3f).toInt64) - (1 : Int64))))])) _
    refine XS.iand X0.here hx rfl (hb hby d2_21) rfl ?_
    show Steps p.tables e below (s₁.setTop (mkF m 22 #[.val (.ref b), .val (.int p1), .val (.int (6 : Int32)), .val (.long (q &&& (((1 : Int64) <<< ((16 : Int32) &&& 0x3f).toInt64) - (1 : Int64)))), .second, .val (.int (2 : Int32))] [(.int ((own_by q (2 : Int32)) &&& (255 : Int32))), (.long (q &&& (((1 : Int64) <<< ((16 : Int32) &&& 0x3f).toInt64) - (1 : Int64))))])) _
    refine XS.i2l X0.here hx rfl (hb hby d2_22) rfl ?_
    show Steps p.tables e below (s₁.setTop (mkF m 23 #[.val (.ref b), .val (.int p1), .val (.int (6 : Int32)), .val (.long (q &&& (((1 : Int64) <<< ((16 : Int32) &&& 0x3f).toInt64) - (1 : Int64)))), .second, .val (.int (2 : Int32))] [(.long ((own_by q (2 : Int32)) &&& (255 : Int32)).toInt64), (.long (q &&& (((1 : Int64) <<< ((16 : Int32) &&& 0x3f).toInt64) - (1 : Int64))))])) _
    refine XS.bipush X0.here hx rfl (hb hby d2_23) ?_
    show Steps p.tables e below (s₁.setTop (mkF m 25 #[.val (.ref b), .val (.int p1), .val (.int (6 : Int32)), .val (.long (q &&& (((1 : Int64) <<< ((16 : Int32) &&& 0x3f).toInt64) - (1 : Int64)))), .second, .val (.int (2 : Int32))] [(.int (8 : Int32)), (.long ((own_by q (2 : Int32)) &&& (255 : Int32)).toInt64), (.long (q &&& (((1 : Int64) <<< ((16 : Int32) &&& 0x3f).toInt64) - (1 : Int64))))])) _
    refine XS.iload X0.here hx rfl (hb hby d2_25) rfl ?_
    show Steps p.tables e below (s₁.setTop (mkF m 27 #[.val (.ref b), .val (.int p1), .val (.int (6 : Int32)), .val (.long (q &&& (((1 : Int64) <<< ((16 : Int32) &&& 0x3f).toInt64) - (1 : Int64)))), .second, .val (.int (2 : Int32))] [(.int (2 : Int32)), (.int (8 : Int32)), (.long ((own_by q (2 : Int32)) &&& (255 : Int32)).toInt64), (.long (q &&& (((1 : Int64) <<< ((16 : Int32) &&& 0x3f).toInt64) - (1 : Int64))))])) _
    refine XS.imul X0.here hx rfl (hb hby d2_27) rfl ?_
    show Steps p.tables e below (s₁.setTop (mkF m 28 #[.val (.ref b), .val (.int p1), .val (.int (6 : Int32)), .val (.long (q &&& (((1 : Int64) <<< ((16 : Int32) &&& 0x3f).toInt64) - (1 : Int64)))), .second, .val (.int (2 : Int32))] [(.int ((8 : Int32) * (2 : Int32))), (.long ((own_by q (2 : Int32)) &&& (255 : Int32)).toInt64), (.long (q &&& (((1 : Int64) <<< ((16 : Int32) &&& 0x3f).toInt64) - (1 : Int64))))])) _
    rw [show ((8 : Int32) * (2 : Int32)) = (16 : Int32) from (by decide : ((8 : Int32) * (2 : Int32)) = (16 : Int32))]
    show Steps p.tables e below (s₁.setTop (mkF m 28 #[.val (.ref b), .val (.int p1), .val (.int (6 : Int32)), .val (.long (q &&& (((1 : Int64) <<< ((16 : Int32) &&& 0x3f).toInt64) - (1 : Int64)))), .second, .val (.int (2 : Int32))] [(.int (16 : Int32)), (.long ((own_by q (2 : Int32)) &&& (255 : Int32)).toInt64), (.long (q &&& (((1 : Int64) <<< ((16 : Int32) &&& 0x3f).toInt64) - (1 : Int64))))])) _
    refine XS.lshl X0.here hx rfl (hb hby d2_28) rfl ?_
    show Steps p.tables e below (s₁.setTop (mkF m 29 #[.val (.ref b), .val (.int p1), .val (.int (6 : Int32)), .val (.long (q &&& (((1 : Int64) <<< ((16 : Int32) &&& 0x3f).toInt64) - (1 : Int64)))), .second, .val (.int (2 : Int32))] [(.long (((own_by q (2 : Int32)) &&& (255 : Int32)).toInt64 <<< ((16 : Int32) &&& 0x3f).toInt64)), (.long (q &&& (((1 : Int64) <<< ((16 : Int32) &&& 0x3f).toInt64) - (1 : Int64))))])) _
    refine XS.lor X0.here hx rfl (hb hby d2_29) rfl ?_
    show Steps p.tables e below (s₁.setTop (mkF m 30 #[.val (.ref b), .val (.int p1), .val (.int (6 : Int32)), .val (.long (q &&& (((1 : Int64) <<< ((16 : Int32) &&& 0x3f).toInt64) - (1 : Int64)))), .second, .val (.int (2 : Int32))] [(.long ((q &&& (((1 : Int64) <<< ((16 : Int32) &&& 0x3f).toInt64) - (1 : Int64))) ||| (((own_by q (2 : Int32)) &&& (255 : Int32)).toInt64 <<< ((16 : Int32) &&& 0x3f).toInt64)))])) _
    rw [show ((q &&& (((1 : Int64) <<< ((16 : Int32) &&& 0x3f).toInt64) - (1 : Int64))) ||| (((own_by q (2 : Int32)) &&& (255 : Int32)).toInt64 <<< ((16 : Int32) &&& 0x3f).toInt64)) = (q &&& (((1 : Int64) <<< ((24 : Int32) &&& 0x3f).toInt64) - (1 : Int64))) from own_step_2 q]
    show Steps p.tables e below (s₁.setTop (mkF m 30 #[.val (.ref b), .val (.int p1), .val (.int (6 : Int32)), .val (.long (q &&& (((1 : Int64) <<< ((16 : Int32) &&& 0x3f).toInt64) - (1 : Int64)))), .second, .val (.int (2 : Int32))] [(.long (q &&& (((1 : Int64) <<< ((24 : Int32) &&& 0x3f).toInt64) - (1 : Int64))))])) _
    refine XS.lstoreN X0.here hx rfl (hb hby d2_30) rfl (l' := #[.val (.ref b), .val (.int p1), .val (.int (6 : Int32)), .val (.long (q &&& (((1 : Int64) <<< ((24 : Int32) &&& 0x3f).toInt64) - (1 : Int64)))), .second, .val (.int (2 : Int32))]) rfl ?_
    show Steps p.tables e below (s₁.setTop (mkF m 31 #[.val (.ref b), .val (.int p1), .val (.int (6 : Int32)), .val (.long (q &&& (((1 : Int64) <<< ((24 : Int32) &&& 0x3f).toInt64) - (1 : Int64)))), .second, .val (.int (2 : Int32))] [])) _
    refine XS.iinc X0.here hx rfl (hb hby d2_31) rfl (l' := #[.val (.ref b), .val (.int p1), .val (.int (6 : Int32)), .val (.long (q &&& (((1 : Int64) <<< ((24 : Int32) &&& 0x3f).toInt64) - (1 : Int64)))), .second, .val (.int ((2 : Int32) + (1 : Int32)))]) rfl ?_
    show Steps p.tables e below (s₁.setTop (mkF m 34 #[.val (.ref b), .val (.int p1), .val (.int (6 : Int32)), .val (.long (q &&& (((1 : Int64) <<< ((24 : Int32) &&& 0x3f).toInt64) - (1 : Int64)))), .second, .val (.int ((2 : Int32) + (1 : Int32)))] [])) _
    rw [show ((2 : Int32) + (1 : Int32)) = (3 : Int32) from (by decide : ((2 : Int32) + (1 : Int32)) = (3 : Int32))]
    show Steps p.tables e below (s₁.setTop (mkF m 34 #[.val (.ref b), .val (.int p1), .val (.int (6 : Int32)), .val (.long (q &&& (((1 : Int64) <<< ((24 : Int32) &&& 0x3f).toInt64) - (1 : Int64)))), .second, .val (.int (3 : Int32))] [])) _
    refine XS.goto X0.here hx rfl (pc0 := 34) (pc' := 5) rfl (hb hby d2_34) (by decide) (by decide) ?_
    show Steps p.tables e below (s₁.setTop (mkF m 5 #[.val (.ref b), .val (.int p1), .val (.int (6 : Int32)), .val (.long (q &&& (((1 : Int64) <<< ((24 : Int32) &&& 0x3f).toInt64) - (1 : Int64)))), .second, .val (.int (3 : Int32))] [])) _
    refine XS.iload X0.here hx rfl (hb hby d2_5) rfl ?_
    show Steps p.tables e below (s₁.setTop (mkF m 7 #[.val (.ref b), .val (.int p1), .val (.int (6 : Int32)), .val (.long (q &&& (((1 : Int64) <<< ((24 : Int32) &&& 0x3f).toInt64) - (1 : Int64)))), .second, .val (.int (3 : Int32))] [(.int (3 : Int32))])) _
    refine XS.iloadN X0.here hx rfl (hb hby d2_7) rfl ?_
    show Steps p.tables e below (s₁.setTop (mkF m 8 #[.val (.ref b), .val (.int p1), .val (.int (6 : Int32)), .val (.long (q &&& (((1 : Int64) <<< ((24 : Int32) &&& 0x3f).toInt64) - (1 : Int64)))), .second, .val (.int (3 : Int32))] [(.int (6 : Int32)), (.int (3 : Int32))])) _
    refine XS.icmpNo X0.here hx rfl (hb hby d2_8) rfl (by decide) ?_
    show Steps p.tables e below (s₁.setTop (mkF m 11 #[.val (.ref b), .val (.int p1), .val (.int (6 : Int32)), .val (.long (q &&& (((1 : Int64) <<< ((24 : Int32) &&& 0x3f).toInt64) - (1 : Int64)))), .second, .val (.int (3 : Int32))] [])) _
    refine XS.lloadN X0.here hx rfl (hb hby d2_11) rfl ?_
    show Steps p.tables e below (s₁.setTop (mkF m 12 #[.val (.ref b), .val (.int p1), .val (.int (6 : Int32)), .val (.long (q &&& (((1 : Int64) <<< ((24 : Int32) &&& 0x3f).toInt64) - (1 : Int64)))), .second, .val (.int (3 : Int32))] [(.long (q &&& (((1 : Int64) <<< ((24 : Int32) &&& 0x3f).toInt64) - (1 : Int64))))])) _
    refine XS.aloadN X0.here hx rfl (hb hby d2_12) rfl rfl ?_
    show Steps p.tables e below (s₁.setTop (mkF m 13 #[.val (.ref b), .val (.int p1), .val (.int (6 : Int32)), .val (.long (q &&& (((1 : Int64) <<< ((24 : Int32) &&& 0x3f).toInt64) - (1 : Int64)))), .second, .val (.int (3 : Int32))] [(.ref b), (.long (q &&& (((1 : Int64) <<< ((24 : Int32) &&& 0x3f).toInt64) - (1 : Int64))))])) _
    refine XS.iloadN X0.here hx rfl (hb hby d2_13) rfl ?_
    show Steps p.tables e below (s₁.setTop (mkF m 14 #[.val (.ref b), .val (.int p1), .val (.int (6 : Int32)), .val (.long (q &&& (((1 : Int64) <<< ((24 : Int32) &&& 0x3f).toInt64) - (1 : Int64)))), .second, .val (.int (3 : Int32))] [(.int p1), (.ref b), (.long (q &&& (((1 : Int64) <<< ((24 : Int32) &&& 0x3f).toInt64) - (1 : Int64))))])) _
    refine XS.iload X0.here hx rfl (hb hby d2_14) rfl ?_
    show Steps p.tables e below (s₁.setTop (mkF m 16 #[.val (.ref b), .val (.int p1), .val (.int (6 : Int32)), .val (.long (q &&& (((1 : Int64) <<< ((24 : Int32) &&& 0x3f).toInt64) - (1 : Int64)))), .second, .val (.int (3 : Int32))] [(.int (3 : Int32)), (.int p1), (.ref b), (.long (q &&& (((1 : Int64) <<< ((24 : Int32) &&& 0x3f).toInt64) - (1 : Int64))))])) _
    refine XS.iadd X0.here hx rfl (hb hby d2_16) rfl ?_
    show Steps p.tables e below (s₁.setTop (mkF m 17 #[.val (.ref b), .val (.int p1), .val (.int (6 : Int32)), .val (.long (q &&& (((1 : Int64) <<< ((24 : Int32) &&& 0x3f).toInt64) - (1 : Int64)))), .second, .val (.int (3 : Int32))] [(.int (p1 + (3 : Int32))), (.ref b), (.long (q &&& (((1 : Int64) <<< ((24 : Int32) &&& 0x3f).toInt64) - (1 : Int64))))])) _
    exact kq)
  obtain ⟨cl69, Ar69, q69, S69, M69, H69, Gf69⟩ := id A
  have hi70 : ¬ ((p1 + (3 : Int32)) < 0 ∨ cl69.slots.size ≤ ((p1 + (3 : Int32))).toNatClampNeg) := (inb_of S69 (hat (3 : Int32) (Or.inr (Or.inr (Or.inr (Or.inl rfl))))).1)
  have G71 : Go p e below A0 (s₁.setTop (mkF m 17 #[.val (.ref b), .val (.int p1), .val (.int (6 : Int32)), .val (.long (q &&& (((1 : Int64) <<< ((32 : Int32) &&& 0x3f).toInt64) - (1 : Int64)))), .second, .val (.int (4 : Int32))] [(.int (p1 + (4 : Int32))), (.ref b), (.long (q &&& (((1 : Int64) <<< ((32 : Int32) &&& 0x3f).toInt64) - (1 : Int64))))])) := fun tq kq => G68 tq (by
    refine X0.baloadBytes hx (j := (p1 + (3 : Int32))) (v := (.int (own_by q (3 : Int32)))) (by rw [e0]; exact Ar69.1) (State.isArrayOf_alike hZ.alike Ar69.2.1) Ar69.2.2 hi70 (H69.at hi70 (hat (3 : Int32) (Or.inr (Or.inr (Or.inr (Or.inl rfl))))).2) (g := (mkF m 17 #[.val (.ref b), .val (.int p1), .val (.int (6 : Int32)), .val (.long (q &&& (((1 : Int64) <<< ((24 : Int32) &&& 0x3f).toInt64) - (1 : Int64)))), .second, .val (.int (3 : Int32))] [(.int (p1 + (3 : Int32))), (.ref b), (.long (q &&& (((1 : Int64) <<< ((24 : Int32) &&& 0x3f).toInt64) - (1 : Int64))))])) rfl rfl (hb hby d2_17) _ ?_
    show Steps p.tables e below (s₁.setTop (mkF m 18 #[.val (.ref b), .val (.int p1), .val (.int (6 : Int32)), .val (.long (q &&& (((1 : Int64) <<< ((24 : Int32) &&& 0x3f).toInt64) - (1 : Int64)))), .second, .val (.int (3 : Int32))] [(.int (own_by q (3 : Int32))), (.long (q &&& (((1 : Int64) <<< ((24 : Int32) &&& 0x3f).toInt64) - (1 : Int64))))])) _
    refine XS.sipush X0.here hx rfl (hb hby d2_18) ?_
    show Steps p.tables e below (s₁.setTop (mkF m 21 #[.val (.ref b), .val (.int p1), .val (.int (6 : Int32)), .val (.long (q &&& (((1 : Int64) <<< ((24 : Int32) &&& 0x3f).toInt64) - (1 : Int64)))), .second, .val (.int (3 : Int32))] [(.int (255 : Int32)), (.int (own_by q (3 : Int32))), (.long (q &&& (((1 : Int64) <<< ((24 : Int32) &&& 0x3f).toInt64) - (1 : Int64))))])) _
    refine XS.iand X0.here hx rfl (hb hby d2_21) rfl ?_
    show Steps p.tables e below (s₁.setTop (mkF m 22 #[.val (.ref b), .val (.int p1), .val (.int (6 : Int32)), .val (.long (q &&& (((1 : Int64) <<< ((24 : Int32) &&& 0x3f).toInt64) - (1 : Int64)))), .second, .val (.int (3 : Int32))] [(.int ((own_by q (3 : Int32)) &&& (255 : Int32))), (.long (q &&& (((1 : Int64) <<< ((24 : Int32) &&& 0x3f).toInt64) - (1 : Int64))))])) _
    refine XS.i2l X0.here hx rfl (hb hby d2_22) rfl ?_
    show Steps p.tables e below (s₁.setTop (mkF m 23 #[.val (.ref b), .val (.int p1), .val (.int (6 : Int32)), .val (.long (q &&& (((1 : Int64) <<< ((24 : Int32) &&& 0x3f).toInt64) - (1 : Int64)))), .second, .val (.int (3 : Int32))] [(.long ((own_by q (3 : Int32)) &&& (255 : Int32)).toInt64), (.long (q &&& (((1 : Int64) <<< ((24 : Int32) &&& 0x3f).toInt64) - (1 : Int64))))])) _
    refine XS.bipush X0.here hx rfl (hb hby d2_23) ?_
    show Steps p.tables e below (s₁.setTop (mkF m 25 #[.val (.ref b), .val (.int p1), .val (.int (6 : Int32)), .val (.long (q &&& (((1 : Int64) <<< ((24 : Int32) &&& 0x3f).toInt64) - (1 : Int64)))), .second, .val (.int (3 : Int32))] [(.int (8 : Int32)), (.long ((own_by q (3 : Int32)) &&& (255 : Int32)).toInt64), (.long (q &&& (((1 : Int64) <<< ((24 : Int32) &&& 0x3f).toInt64) - (1 : Int64))))])) _
    refine XS.iload X0.here hx rfl (hb hby d2_25) rfl ?_
    show Steps p.tables e below (s₁.setTop (mkF m 27 #[.val (.ref b), .val (.int p1), .val (.int (6 : Int32)), .val (.long (q &&& (((1 : Int64) <<< ((24 : Int32) &&& 0x3f).toInt64) - (1 : Int64)))), .second, .val (.int (3 : Int32))] [(.int (3 : Int32)), (.int (8 : Int32)), (.long ((own_by q (3 : Int32)) &&& (255 : Int32)).toInt64), (.long (q &&& (((1 : Int64) <<< ((24 : Int32) &&& 0x3f).toInt64) - (1 : Int64))))])) _
    refine XS.imul X0.here hx rfl (hb hby d2_27) rfl ?_
    show Steps p.tables e below (s₁.setTop (mkF m 28 #[.val (.ref b), .val (.int p1), .val (.int (6 : Int32)), .val (.long (q &&& (((1 : Int64) <<< ((24 : Int32) &&& 0x3f).toInt64) - (1 : Int64)))), .second, .val (.int (3 : Int32))] [(.int ((8 : Int32) * (3 : Int32))), (.long ((own_by q (3 : Int32)) &&& (255 : Int32)).toInt64), (.long (q &&& (((1 : Int64) <<< ((24 : Int32) &&& 0x3f).toInt64) - (1 : Int64))))])) _
    rw [show ((8 : Int32) * (3 : Int32)) = (24 : Int32) from (by decide : ((8 : Int32) * (3 : Int32)) = (24 : Int32))]
    show Steps p.tables e below (s₁.setTop (mkF m 28 #[.val (.ref b), .val (.int p1), .val (.int (6 : Int32)), .val (.long (q &&& (((1 : Int64) <<< ((24 : Int32) &&& 0x3f).toInt64) - (1 : Int64)))), .second, .val (.int (3 : Int32))] [(.int (24 : Int32)), (.long ((own_by q (3 : Int32)) &&& (255 : Int32)).toInt64), (.long (q &&& (((1 : Int64) <<< ((24 : Int32) &&& 0x3f).toInt64) - (1 : Int64))))])) _
    refine XS.lshl X0.here hx rfl (hb hby d2_28) rfl ?_
    show Steps p.tables e below (s₁.setTop (mkF m 29 #[.val (.ref b), .val (.int p1), .val (.int (6 : Int32)), .val (.long (q &&& (((1 : Int64) <<< ((24 : Int32) &&& 0x3f).toInt64) - (1 : Int64)))), .second, .val (.int (3 : Int32))] [(.long (((own_by q (3 : Int32)) &&& (255 : Int32)).toInt64 <<< ((24 : Int32) &&& 0x3f).toInt64)), (.long (q &&& (((1 : Int64) <<< ((24 : Int32) &&& 0x3f).toInt64) - (1 : Int64))))])) _
    refine XS.lor X0.here hx rfl (hb hby d2_29) rfl ?_
    show Steps p.tables e below (s₁.setTop (mkF m 30 #[.val (.ref b), .val (.int p1), .val (.int (6 : Int32)), .val (.long (q &&& (((1 : Int64) <<< ((24 : Int32) &&& 0x3f).toInt64) - (1 : Int64)))), .second, .val (.int (3 : Int32))] [(.long ((q &&& (((1 : Int64) <<< ((24 : Int32) &&& 0x3f).toInt64) - (1 : Int64))) ||| (((own_by q (3 : Int32)) &&& (255 : Int32)).toInt64 <<< ((24 : Int32) &&& 0x3f).toInt64)))])) _
    rw [show ((q &&& (((1 : Int64) <<< ((24 : Int32) &&& 0x3f).toInt64) - (1 : Int64))) ||| (((own_by q (3 : Int32)) &&& (255 : Int32)).toInt64 <<< ((24 : Int32) &&& 0x3f).toInt64)) = (q &&& (((1 : Int64) <<< ((32 : Int32) &&& 0x3f).toInt64) - (1 : Int64))) from own_step_3 q]
    show Steps p.tables e below (s₁.setTop (mkF m 30 #[.val (.ref b), .val (.int p1), .val (.int (6 : Int32)), .val (.long (q &&& (((1 : Int64) <<< ((24 : Int32) &&& 0x3f).toInt64) - (1 : Int64)))), .second, .val (.int (3 : Int32))] [(.long (q &&& (((1 : Int64) <<< ((32 : Int32) &&& 0x3f).toInt64) - (1 : Int64))))])) _
    refine XS.lstoreN X0.here hx rfl (hb hby d2_30) rfl (l' := #[.val (.ref b), .val (.int p1), .val (.int (6 : Int32)), .val (.long (q &&& (((1 : Int64) <<< ((32 : Int32) &&& 0x3f).toInt64) - (1 : Int64)))), .second, .val (.int (3 : Int32))]) rfl ?_
    show Steps p.tables e below (s₁.setTop (mkF m 31 #[.val (.ref b), .val (.int p1), .val (.int (6 : Int32)), .val (.long (q &&& (((1 : Int64) <<< ((32 : Int32) &&& 0x3f).toInt64) - (1 : Int64)))), .second, .val (.int (3 : Int32))] [])) _
    refine XS.iinc X0.here hx rfl (hb hby d2_31) rfl (l' := #[.val (.ref b), .val (.int p1), .val (.int (6 : Int32)), .val (.long (q &&& (((1 : Int64) <<< ((32 : Int32) &&& 0x3f).toInt64) - (1 : Int64)))), .second, .val (.int ((3 : Int32) + (1 : Int32)))]) rfl ?_
    show Steps p.tables e below (s₁.setTop (mkF m 34 #[.val (.ref b), .val (.int p1), .val (.int (6 : Int32)), .val (.long (q &&& (((1 : Int64) <<< ((32 : Int32) &&& 0x3f).toInt64) - (1 : Int64)))), .second, .val (.int ((3 : Int32) + (1 : Int32)))] [])) _
    rw [show ((3 : Int32) + (1 : Int32)) = (4 : Int32) from (by decide : ((3 : Int32) + (1 : Int32)) = (4 : Int32))]
    show Steps p.tables e below (s₁.setTop (mkF m 34 #[.val (.ref b), .val (.int p1), .val (.int (6 : Int32)), .val (.long (q &&& (((1 : Int64) <<< ((32 : Int32) &&& 0x3f).toInt64) - (1 : Int64)))), .second, .val (.int (4 : Int32))] [])) _
    refine XS.goto X0.here hx rfl (pc0 := 34) (pc' := 5) rfl (hb hby d2_34) (by decide) (by decide) ?_
    show Steps p.tables e below (s₁.setTop (mkF m 5 #[.val (.ref b), .val (.int p1), .val (.int (6 : Int32)), .val (.long (q &&& (((1 : Int64) <<< ((32 : Int32) &&& 0x3f).toInt64) - (1 : Int64)))), .second, .val (.int (4 : Int32))] [])) _
    refine XS.iload X0.here hx rfl (hb hby d2_5) rfl ?_
    show Steps p.tables e below (s₁.setTop (mkF m 7 #[.val (.ref b), .val (.int p1), .val (.int (6 : Int32)), .val (.long (q &&& (((1 : Int64) <<< ((32 : Int32) &&& 0x3f).toInt64) - (1 : Int64)))), .second, .val (.int (4 : Int32))] [(.int (4 : Int32))])) _
    refine XS.iloadN X0.here hx rfl (hb hby d2_7) rfl ?_
    show Steps p.tables e below (s₁.setTop (mkF m 8 #[.val (.ref b), .val (.int p1), .val (.int (6 : Int32)), .val (.long (q &&& (((1 : Int64) <<< ((32 : Int32) &&& 0x3f).toInt64) - (1 : Int64)))), .second, .val (.int (4 : Int32))] [(.int (6 : Int32)), (.int (4 : Int32))])) _
    refine XS.icmpNo X0.here hx rfl (hb hby d2_8) rfl (by decide) ?_
    show Steps p.tables e below (s₁.setTop (mkF m 11 #[.val (.ref b), .val (.int p1), .val (.int (6 : Int32)), .val (.long (q &&& (((1 : Int64) <<< ((32 : Int32) &&& 0x3f).toInt64) - (1 : Int64)))), .second, .val (.int (4 : Int32))] [])) _
    refine XS.lloadN X0.here hx rfl (hb hby d2_11) rfl ?_
    show Steps p.tables e below (s₁.setTop (mkF m 12 #[.val (.ref b), .val (.int p1), .val (.int (6 : Int32)), .val (.long (q &&& (((1 : Int64) <<< ((32 : Int32) &&& 0x3f).toInt64) - (1 : Int64)))), .second, .val (.int (4 : Int32))] [(.long (q &&& (((1 : Int64) <<< ((32 : Int32) &&& 0x3f).toInt64) - (1 : Int64))))])) _
    refine XS.aloadN X0.here hx rfl (hb hby d2_12) rfl rfl ?_
    show Steps p.tables e below (s₁.setTop (mkF m 13 #[.val (.ref b), .val (.int p1), .val (.int (6 : Int32)), .val (.long (q &&& (((1 : Int64) <<< ((32 : Int32) &&& 0x3f).toInt64) - (1 : Int64)))), .second, .val (.int (4 : Int32))] [(.ref b), (.long (q &&& (((1 : Int64) <<< ((32 : Int32) &&& 0x3f).toInt64) - (1 : Int64))))])) _
    refine XS.iloadN X0.here hx rfl (hb hby d2_13) rfl ?_
    show Steps p.tables e below (s₁.setTop (mkF m 14 #[.val (.ref b), .val (.int p1), .val (.int (6 : Int32)), .val (.long (q &&& (((1 : Int64) <<< ((32 : Int32) &&& 0x3f).toInt64) - (1 : Int64)))), .second, .val (.int (4 : Int32))] [(.int p1), (.ref b), (.long (q &&& (((1 : Int64) <<< ((32 : Int32) &&& 0x3f).toInt64) - (1 : Int64))))])) _
    refine XS.iload X0.here hx rfl (hb hby d2_14) rfl ?_
    show Steps p.tables e below (s₁.setTop (mkF m 16 #[.val (.ref b), .val (.int p1), .val (.int (6 : Int32)), .val (.long (q &&& (((1 : Int64) <<< ((32 : Int32) &&& 0x3f).toInt64) - (1 : Int64)))), .second, .val (.int (4 : Int32))] [(.int (4 : Int32)), (.int p1), (.ref b), (.long (q &&& (((1 : Int64) <<< ((32 : Int32) &&& 0x3f).toInt64) - (1 : Int64))))])) _
    refine XS.iadd X0.here hx rfl (hb hby d2_16) rfl ?_
    show Steps p.tables e below (s₁.setTop (mkF m 17 #[.val (.ref b), .val (.int p1), .val (.int (6 : Int32)), .val (.long (q &&& (((1 : Int64) <<< ((32 : Int32) &&& 0x3f).toInt64) - (1 : Int64)))), .second, .val (.int (4 : Int32))] [(.int (p1 + (4 : Int32))), (.ref b), (.long (q &&& (((1 : Int64) <<< ((32 : Int32) &&& 0x3f).toInt64) - (1 : Int64))))])) _
    exact kq)
  obtain ⟨cl72, Ar72, q72, S72, M72, H72, Gf72⟩ := id A
  have hi73 : ¬ ((p1 + (4 : Int32)) < 0 ∨ cl72.slots.size ≤ ((p1 + (4 : Int32))).toNatClampNeg) := (inb_of S72 (hat (4 : Int32) (Or.inr (Or.inr (Or.inr (Or.inr (Or.inl rfl)))))).1)
  have G74 : Go p e below A0 (s₁.setTop (mkF m 17 #[.val (.ref b), .val (.int p1), .val (.int (6 : Int32)), .val (.long (q &&& (((1 : Int64) <<< ((40 : Int32) &&& 0x3f).toInt64) - (1 : Int64)))), .second, .val (.int (5 : Int32))] [(.int (p1 + (5 : Int32))), (.ref b), (.long (q &&& (((1 : Int64) <<< ((40 : Int32) &&& 0x3f).toInt64) - (1 : Int64))))])) := fun tq kq => G71 tq (by
    refine X0.baloadBytes hx (j := (p1 + (4 : Int32))) (v := (.int (own_by q (4 : Int32)))) (by rw [e0]; exact Ar72.1) (State.isArrayOf_alike hZ.alike Ar72.2.1) Ar72.2.2 hi73 (H72.at hi73 (hat (4 : Int32) (Or.inr (Or.inr (Or.inr (Or.inr (Or.inl rfl)))))).2) (g := (mkF m 17 #[.val (.ref b), .val (.int p1), .val (.int (6 : Int32)), .val (.long (q &&& (((1 : Int64) <<< ((32 : Int32) &&& 0x3f).toInt64) - (1 : Int64)))), .second, .val (.int (4 : Int32))] [(.int (p1 + (4 : Int32))), (.ref b), (.long (q &&& (((1 : Int64) <<< ((32 : Int32) &&& 0x3f).toInt64) - (1 : Int64))))])) rfl rfl (hb hby d2_17) _ ?_
    show Steps p.tables e below (s₁.setTop (mkF m 18 #[.val (.ref b), .val (.int p1), .val (.int (6 : Int32)), .val (.long (q &&& (((1 : Int64) <<< ((32 : Int32) &&& 0x3f).toInt64) - (1 : Int64)))), .second, .val (.int (4 : Int32))] [(.int (own_by q (4 : Int32))), (.long (q &&& (((1 : Int64) <<< ((32 : Int32) &&& 0x3f).toInt64) - (1 : Int64))))])) _
    refine XS.sipush X0.here hx rfl (hb hby d2_18) ?_
    show Steps p.tables e below (s₁.setTop (mkF m 21 #[.val (.ref b), .val (.int p1), .val (.int (6 : Int32)), .val (.long (q &&& (((1 : Int64) <<< ((32 : Int32) &&& 0x3f).toInt64) - (1 : Int64)))), .second, .val (.int (4 : Int32))] [(.int (255 : Int32)), (.int (own_by q (4 : Int32))), (.long (q &&& (((1 : Int64) <<< ((32 : Int32) &&& 0x3f).toInt64) - (1 : Int64))))])) _
    refine XS.iand X0.here hx rfl (hb hby d2_21) rfl ?_
    show Steps p.tables e below (s₁.setTop (mkF m 22 #[.val (.ref b), .val (.int p1), .val (.int (6 : Int32)), .val (.long (q &&& (((1 : Int64) <<< ((32 : Int32) &&& 0x3f).toInt64) - (1 : Int64)))), .second, .val (.int (4 : Int32))] [(.int ((own_by q (4 : Int32)) &&& (255 : Int32))), (.long (q &&& (((1 : Int64) <<< ((32 : Int32) &&& 0x3f).toInt64) - (1 : Int64))))])) _
    refine XS.i2l X0.here hx rfl (hb hby d2_22) rfl ?_
    show Steps p.tables e below (s₁.setTop (mkF m 23 #[.val (.ref b), .val (.int p1), .val (.int (6 : Int32)), .val (.long (q &&& (((1 : Int64) <<< ((32 : Int32) &&& 0x3f).toInt64) - (1 : Int64)))), .second, .val (.int (4 : Int32))] [(.long ((own_by q (4 : Int32)) &&& (255 : Int32)).toInt64), (.long (q &&& (((1 : Int64) <<< ((32 : Int32) &&& 0x3f).toInt64) - (1 : Int64))))])) _
    refine XS.bipush X0.here hx rfl (hb hby d2_23) ?_
    show Steps p.tables e below (s₁.setTop (mkF m 25 #[.val (.ref b), .val (.int p1), .val (.int (6 : Int32)), .val (.long (q &&& (((1 : Int64) <<< ((32 : Int32) &&& 0x3f).toInt64) - (1 : Int64)))), .second, .val (.int (4 : Int32))] [(.int (8 : Int32)), (.long ((own_by q (4 : Int32)) &&& (255 : Int32)).toInt64), (.long (q &&& (((1 : Int64) <<< ((32 : Int32) &&& 0x3f).toInt64) - (1 : Int64))))])) _
    refine XS.iload X0.here hx rfl (hb hby d2_25) rfl ?_
    show Steps p.tables e below (s₁.setTop (mkF m 27 #[.val (.ref b), .val (.int p1), .val (.int (6 : Int32)), .val (.long (q &&& (((1 : Int64) <<< ((32 : Int32) &&& 0x3f).toInt64) - (1 : Int64)))), .second, .val (.int (4 : Int32))] [(.int (4 : Int32)), (.int (8 : Int32)), (.long ((own_by q (4 : Int32)) &&& (255 : Int32)).toInt64), (.long (q &&& (((1 : Int64) <<< ((32 : Int32) &&& 0x3f).toInt64) - (1 : Int64))))])) _
    refine XS.imul X0.here hx rfl (hb hby d2_27) rfl ?_
    show Steps p.tables e below (s₁.setTop (mkF m 28 #[.val (.ref b), .val (.int p1), .val (.int (6 : Int32)), .val (.long (q &&& (((1 : Int64) <<< ((32 : Int32) &&& 0x3f).toInt64) - (1 : Int64)))), .second, .val (.int (4 : Int32))] [(.int ((8 : Int32) * (4 : Int32))), (.long ((own_by q (4 : Int32)) &&& (255 : Int32)).toInt64), (.long (q &&& (((1 : Int64) <<< ((32 : Int32) &&& 0x3f).toInt64) - (1 : Int64))))])) _
    rw [show ((8 : Int32) * (4 : Int32)) = (32 : Int32) from (by decide : ((8 : Int32) * (4 : Int32)) = (32 : Int32))]
    show Steps p.tables e below (s₁.setTop (mkF m 28 #[.val (.ref b), .val (.int p1), .val (.int (6 : Int32)), .val (.long (q &&& (((1 : Int64) <<< ((32 : Int32) &&& 0x3f).toInt64) - (1 : Int64)))), .second, .val (.int (4 : Int32))] [(.int (32 : Int32)), (.long ((own_by q (4 : Int32)) &&& (255 : Int32)).toInt64), (.long (q &&& (((1 : Int64) <<< ((32 : Int32) &&& 0x3f).toInt64) - (1 : Int64))))])) _
    refine XS.lshl X0.here hx rfl (hb hby d2_28) rfl ?_
    show Steps p.tables e below (s₁.setTop (mkF m 29 #[.val (.ref b), .val (.int p1), .val (.int (6 : Int32)), .val (.long (q &&& (((1 : Int64) <<< ((32 : Int32) &&& 0x3f).toInt64) - (1 : Int64)))), .second, .val (.int (4 : Int32))] [(.long (((own_by q (4 : Int32)) &&& (255 : Int32)).toInt64 <<< ((32 : Int32) &&& 0x3f).toInt64)), (.long (q &&& (((1 : Int64) <<< ((32 : Int32) &&& 0x3f).toInt64) - (1 : Int64))))])) _
    refine XS.lor X0.here hx rfl (hb hby d2_29) rfl ?_
    show Steps p.tables e below (s₁.setTop (mkF m 30 #[.val (.ref b), .val (.int p1), .val (.int (6 : Int32)), .val (.long (q &&& (((1 : Int64) <<< ((32 : Int32) &&& 0x3f).toInt64) - (1 : Int64)))), .second, .val (.int (4 : Int32))] [(.long ((q &&& (((1 : Int64) <<< ((32 : Int32) &&& 0x3f).toInt64) - (1 : Int64))) ||| (((own_by q (4 : Int32)) &&& (255 : Int32)).toInt64 <<< ((32 : Int32) &&& 0x3f).toInt64)))])) _
    rw [show ((q &&& (((1 : Int64) <<< ((32 : Int32) &&& 0x3f).toInt64) - (1 : Int64))) ||| (((own_by q (4 : Int32)) &&& (255 : Int32)).toInt64 <<< ((32 : Int32) &&& 0x3f).toInt64)) = (q &&& (((1 : Int64) <<< ((40 : Int32) &&& 0x3f).toInt64) - (1 : Int64))) from own_step_4 q]
    show Steps p.tables e below (s₁.setTop (mkF m 30 #[.val (.ref b), .val (.int p1), .val (.int (6 : Int32)), .val (.long (q &&& (((1 : Int64) <<< ((32 : Int32) &&& 0x3f).toInt64) - (1 : Int64)))), .second, .val (.int (4 : Int32))] [(.long (q &&& (((1 : Int64) <<< ((40 : Int32) &&& 0x3f).toInt64) - (1 : Int64))))])) _
    refine XS.lstoreN X0.here hx rfl (hb hby d2_30) rfl (l' := #[.val (.ref b), .val (.int p1), .val (.int (6 : Int32)), .val (.long (q &&& (((1 : Int64) <<< ((40 : Int32) &&& 0x3f).toInt64) - (1 : Int64)))), .second, .val (.int (4 : Int32))]) rfl ?_
    show Steps p.tables e below (s₁.setTop (mkF m 31 #[.val (.ref b), .val (.int p1), .val (.int (6 : Int32)), .val (.long (q &&& (((1 : Int64) <<< ((40 : Int32) &&& 0x3f).toInt64) - (1 : Int64)))), .second, .val (.int (4 : Int32))] [])) _
    refine XS.iinc X0.here hx rfl (hb hby d2_31) rfl (l' := #[.val (.ref b), .val (.int p1), .val (.int (6 : Int32)), .val (.long (q &&& (((1 : Int64) <<< ((40 : Int32) &&& 0x3f).toInt64) - (1 : Int64)))), .second, .val (.int ((4 : Int32) + (1 : Int32)))]) rfl ?_
    show Steps p.tables e below (s₁.setTop (mkF m 34 #[.val (.ref b), .val (.int p1), .val (.int (6 : Int32)), .val (.long (q &&& (((1 : Int64) <<< ((40 : Int32) &&& 0x3f).toInt64) - (1 : Int64)))), .second, .val (.int ((4 : Int32) + (1 : Int32)))] [])) _
    rw [show ((4 : Int32) + (1 : Int32)) = (5 : Int32) from (by decide : ((4 : Int32) + (1 : Int32)) = (5 : Int32))]
    show Steps p.tables e below (s₁.setTop (mkF m 34 #[.val (.ref b), .val (.int p1), .val (.int (6 : Int32)), .val (.long (q &&& (((1 : Int64) <<< ((40 : Int32) &&& 0x3f).toInt64) - (1 : Int64)))), .second, .val (.int (5 : Int32))] [])) _
    refine XS.goto X0.here hx rfl (pc0 := 34) (pc' := 5) rfl (hb hby d2_34) (by decide) (by decide) ?_
    show Steps p.tables e below (s₁.setTop (mkF m 5 #[.val (.ref b), .val (.int p1), .val (.int (6 : Int32)), .val (.long (q &&& (((1 : Int64) <<< ((40 : Int32) &&& 0x3f).toInt64) - (1 : Int64)))), .second, .val (.int (5 : Int32))] [])) _
    refine XS.iload X0.here hx rfl (hb hby d2_5) rfl ?_
    show Steps p.tables e below (s₁.setTop (mkF m 7 #[.val (.ref b), .val (.int p1), .val (.int (6 : Int32)), .val (.long (q &&& (((1 : Int64) <<< ((40 : Int32) &&& 0x3f).toInt64) - (1 : Int64)))), .second, .val (.int (5 : Int32))] [(.int (5 : Int32))])) _
    refine XS.iloadN X0.here hx rfl (hb hby d2_7) rfl ?_
    show Steps p.tables e below (s₁.setTop (mkF m 8 #[.val (.ref b), .val (.int p1), .val (.int (6 : Int32)), .val (.long (q &&& (((1 : Int64) <<< ((40 : Int32) &&& 0x3f).toInt64) - (1 : Int64)))), .second, .val (.int (5 : Int32))] [(.int (6 : Int32)), (.int (5 : Int32))])) _
    refine XS.icmpNo X0.here hx rfl (hb hby d2_8) rfl (by decide) ?_
    show Steps p.tables e below (s₁.setTop (mkF m 11 #[.val (.ref b), .val (.int p1), .val (.int (6 : Int32)), .val (.long (q &&& (((1 : Int64) <<< ((40 : Int32) &&& 0x3f).toInt64) - (1 : Int64)))), .second, .val (.int (5 : Int32))] [])) _
    refine XS.lloadN X0.here hx rfl (hb hby d2_11) rfl ?_
    show Steps p.tables e below (s₁.setTop (mkF m 12 #[.val (.ref b), .val (.int p1), .val (.int (6 : Int32)), .val (.long (q &&& (((1 : Int64) <<< ((40 : Int32) &&& 0x3f).toInt64) - (1 : Int64)))), .second, .val (.int (5 : Int32))] [(.long (q &&& (((1 : Int64) <<< ((40 : Int32) &&& 0x3f).toInt64) - (1 : Int64))))])) _
    refine XS.aloadN X0.here hx rfl (hb hby d2_12) rfl rfl ?_
    show Steps p.tables e below (s₁.setTop (mkF m 13 #[.val (.ref b), .val (.int p1), .val (.int (6 : Int32)), .val (.long (q &&& (((1 : Int64) <<< ((40 : Int32) &&& 0x3f).toInt64) - (1 : Int64)))), .second, .val (.int (5 : Int32))] [(.ref b), (.long (q &&& (((1 : Int64) <<< ((40 : Int32) &&& 0x3f).toInt64) - (1 : Int64))))])) _
    refine XS.iloadN X0.here hx rfl (hb hby d2_13) rfl ?_
    show Steps p.tables e below (s₁.setTop (mkF m 14 #[.val (.ref b), .val (.int p1), .val (.int (6 : Int32)), .val (.long (q &&& (((1 : Int64) <<< ((40 : Int32) &&& 0x3f).toInt64) - (1 : Int64)))), .second, .val (.int (5 : Int32))] [(.int p1), (.ref b), (.long (q &&& (((1 : Int64) <<< ((40 : Int32) &&& 0x3f).toInt64) - (1 : Int64))))])) _
    refine XS.iload X0.here hx rfl (hb hby d2_14) rfl ?_
    show Steps p.tables e below (s₁.setTop (mkF m 16 #[.val (.ref b), .val (.int p1), .val (.int (6 : Int32)), .val (.long (q &&& (((1 : Int64) <<< ((40 : Int32) &&& 0x3f).toInt64) - (1 : Int64)))), .second, .val (.int (5 : Int32))] [(.int (5 : Int32)), (.int p1), (.ref b), (.long (q &&& (((1 : Int64) <<< ((40 : Int32) &&& 0x3f).toInt64) - (1 : Int64))))])) _
    refine XS.iadd X0.here hx rfl (hb hby d2_16) rfl ?_
    show Steps p.tables e below (s₁.setTop (mkF m 17 #[.val (.ref b), .val (.int p1), .val (.int (6 : Int32)), .val (.long (q &&& (((1 : Int64) <<< ((40 : Int32) &&& 0x3f).toInt64) - (1 : Int64)))), .second, .val (.int (5 : Int32))] [(.int (p1 + (5 : Int32))), (.ref b), (.long (q &&& (((1 : Int64) <<< ((40 : Int32) &&& 0x3f).toInt64) - (1 : Int64))))])) _
    exact kq)
  obtain ⟨cl75, Ar75, q75, S75, M75, H75, Gf75⟩ := id A
  have hi76 : ¬ ((p1 + (5 : Int32)) < 0 ∨ cl75.slots.size ≤ ((p1 + (5 : Int32))).toNatClampNeg) := (inb_of S75 (hat (5 : Int32) (Or.inr (Or.inr (Or.inr (Or.inr (Or.inr (Or.inl rfl))))))).1)
  have G77 : Go p e below A0 (s₁.setTop (mkF m 38 #[.val (.ref b), .val (.int p1), .val (.int (6 : Int32)), .val (.long (q &&& (((1 : Int64) <<< ((48 : Int32) &&& 0x3f).toInt64) - (1 : Int64)))), .second, .val (.int (6 : Int32))] [(.long (q &&& (((1 : Int64) <<< ((48 : Int32) &&& 0x3f).toInt64) - (1 : Int64))))])) := fun tq kq => G74 tq (by
    refine X0.baloadBytes hx (j := (p1 + (5 : Int32))) (v := (.int (own_by q (5 : Int32)))) (by rw [e0]; exact Ar75.1) (State.isArrayOf_alike hZ.alike Ar75.2.1) Ar75.2.2 hi76 (H75.at hi76 (hat (5 : Int32) (Or.inr (Or.inr (Or.inr (Or.inr (Or.inr (Or.inl rfl))))))).2) (g := (mkF m 17 #[.val (.ref b), .val (.int p1), .val (.int (6 : Int32)), .val (.long (q &&& (((1 : Int64) <<< ((40 : Int32) &&& 0x3f).toInt64) - (1 : Int64)))), .second, .val (.int (5 : Int32))] [(.int (p1 + (5 : Int32))), (.ref b), (.long (q &&& (((1 : Int64) <<< ((40 : Int32) &&& 0x3f).toInt64) - (1 : Int64))))])) rfl rfl (hb hby d2_17) _ ?_
    show Steps p.tables e below (s₁.setTop (mkF m 18 #[.val (.ref b), .val (.int p1), .val (.int (6 : Int32)), .val (.long (q &&& (((1 : Int64) <<< ((40 : Int32) &&& 0x3f).toInt64) - (1 : Int64)))), .second, .val (.int (5 : Int32))] [(.int (own_by q (5 : Int32))), (.long (q &&& (((1 : Int64) <<< ((40 : Int32) &&& 0x3f).toInt64) - (1 : Int64))))])) _
    refine XS.sipush X0.here hx rfl (hb hby d2_18) ?_
    show Steps p.tables e below (s₁.setTop (mkF m 21 #[.val (.ref b), .val (.int p1), .val (.int (6 : Int32)), .val (.long (q &&& (((1 : Int64) <<< ((40 : Int32) &&& 0x3f).toInt64) - (1 : Int64)))), .second, .val (.int (5 : Int32))] [(.int (255 : Int32)), (.int (own_by q (5 : Int32))), (.long (q &&& (((1 : Int64) <<< ((40 : Int32) &&& 0x3f).toInt64) - (1 : Int64))))])) _
    refine XS.iand X0.here hx rfl (hb hby d2_21) rfl ?_
    show Steps p.tables e below (s₁.setTop (mkF m 22 #[.val (.ref b), .val (.int p1), .val (.int (6 : Int32)), .val (.long (q &&& (((1 : Int64) <<< ((40 : Int32) &&& 0x3f).toInt64) - (1 : Int64)))), .second, .val (.int (5 : Int32))] [(.int ((own_by q (5 : Int32)) &&& (255 : Int32))), (.long (q &&& (((1 : Int64) <<< ((40 : Int32) &&& 0x3f).toInt64) - (1 : Int64))))])) _
    refine XS.i2l X0.here hx rfl (hb hby d2_22) rfl ?_
    show Steps p.tables e below (s₁.setTop (mkF m 23 #[.val (.ref b), .val (.int p1), .val (.int (6 : Int32)), .val (.long (q &&& (((1 : Int64) <<< ((40 : Int32) &&& 0x3f).toInt64) - (1 : Int64)))), .second, .val (.int (5 : Int32))] [(.long ((own_by q (5 : Int32)) &&& (255 : Int32)).toInt64), (.long (q &&& (((1 : Int64) <<< ((40 : Int32) &&& 0x3f).toInt64) - (1 : Int64))))])) _
    refine XS.bipush X0.here hx rfl (hb hby d2_23) ?_
    show Steps p.tables e below (s₁.setTop (mkF m 25 #[.val (.ref b), .val (.int p1), .val (.int (6 : Int32)), .val (.long (q &&& (((1 : Int64) <<< ((40 : Int32) &&& 0x3f).toInt64) - (1 : Int64)))), .second, .val (.int (5 : Int32))] [(.int (8 : Int32)), (.long ((own_by q (5 : Int32)) &&& (255 : Int32)).toInt64), (.long (q &&& (((1 : Int64) <<< ((40 : Int32) &&& 0x3f).toInt64) - (1 : Int64))))])) _
    refine XS.iload X0.here hx rfl (hb hby d2_25) rfl ?_
    show Steps p.tables e below (s₁.setTop (mkF m 27 #[.val (.ref b), .val (.int p1), .val (.int (6 : Int32)), .val (.long (q &&& (((1 : Int64) <<< ((40 : Int32) &&& 0x3f).toInt64) - (1 : Int64)))), .second, .val (.int (5 : Int32))] [(.int (5 : Int32)), (.int (8 : Int32)), (.long ((own_by q (5 : Int32)) &&& (255 : Int32)).toInt64), (.long (q &&& (((1 : Int64) <<< ((40 : Int32) &&& 0x3f).toInt64) - (1 : Int64))))])) _
    refine XS.imul X0.here hx rfl (hb hby d2_27) rfl ?_
    show Steps p.tables e below (s₁.setTop (mkF m 28 #[.val (.ref b), .val (.int p1), .val (.int (6 : Int32)), .val (.long (q &&& (((1 : Int64) <<< ((40 : Int32) &&& 0x3f).toInt64) - (1 : Int64)))), .second, .val (.int (5 : Int32))] [(.int ((8 : Int32) * (5 : Int32))), (.long ((own_by q (5 : Int32)) &&& (255 : Int32)).toInt64), (.long (q &&& (((1 : Int64) <<< ((40 : Int32) &&& 0x3f).toInt64) - (1 : Int64))))])) _
    rw [show ((8 : Int32) * (5 : Int32)) = (40 : Int32) from (by decide : ((8 : Int32) * (5 : Int32)) = (40 : Int32))]
    show Steps p.tables e below (s₁.setTop (mkF m 28 #[.val (.ref b), .val (.int p1), .val (.int (6 : Int32)), .val (.long (q &&& (((1 : Int64) <<< ((40 : Int32) &&& 0x3f).toInt64) - (1 : Int64)))), .second, .val (.int (5 : Int32))] [(.int (40 : Int32)), (.long ((own_by q (5 : Int32)) &&& (255 : Int32)).toInt64), (.long (q &&& (((1 : Int64) <<< ((40 : Int32) &&& 0x3f).toInt64) - (1 : Int64))))])) _
    refine XS.lshl X0.here hx rfl (hb hby d2_28) rfl ?_
    show Steps p.tables e below (s₁.setTop (mkF m 29 #[.val (.ref b), .val (.int p1), .val (.int (6 : Int32)), .val (.long (q &&& (((1 : Int64) <<< ((40 : Int32) &&& 0x3f).toInt64) - (1 : Int64)))), .second, .val (.int (5 : Int32))] [(.long (((own_by q (5 : Int32)) &&& (255 : Int32)).toInt64 <<< ((40 : Int32) &&& 0x3f).toInt64)), (.long (q &&& (((1 : Int64) <<< ((40 : Int32) &&& 0x3f).toInt64) - (1 : Int64))))])) _
    refine XS.lor X0.here hx rfl (hb hby d2_29) rfl ?_
    show Steps p.tables e below (s₁.setTop (mkF m 30 #[.val (.ref b), .val (.int p1), .val (.int (6 : Int32)), .val (.long (q &&& (((1 : Int64) <<< ((40 : Int32) &&& 0x3f).toInt64) - (1 : Int64)))), .second, .val (.int (5 : Int32))] [(.long ((q &&& (((1 : Int64) <<< ((40 : Int32) &&& 0x3f).toInt64) - (1 : Int64))) ||| (((own_by q (5 : Int32)) &&& (255 : Int32)).toInt64 <<< ((40 : Int32) &&& 0x3f).toInt64)))])) _
    rw [show ((q &&& (((1 : Int64) <<< ((40 : Int32) &&& 0x3f).toInt64) - (1 : Int64))) ||| (((own_by q (5 : Int32)) &&& (255 : Int32)).toInt64 <<< ((40 : Int32) &&& 0x3f).toInt64)) = (q &&& (((1 : Int64) <<< ((48 : Int32) &&& 0x3f).toInt64) - (1 : Int64))) from own_step_5 q]
    show Steps p.tables e below (s₁.setTop (mkF m 30 #[.val (.ref b), .val (.int p1), .val (.int (6 : Int32)), .val (.long (q &&& (((1 : Int64) <<< ((40 : Int32) &&& 0x3f).toInt64) - (1 : Int64)))), .second, .val (.int (5 : Int32))] [(.long (q &&& (((1 : Int64) <<< ((48 : Int32) &&& 0x3f).toInt64) - (1 : Int64))))])) _
    refine XS.lstoreN X0.here hx rfl (hb hby d2_30) rfl (l' := #[.val (.ref b), .val (.int p1), .val (.int (6 : Int32)), .val (.long (q &&& (((1 : Int64) <<< ((48 : Int32) &&& 0x3f).toInt64) - (1 : Int64)))), .second, .val (.int (5 : Int32))]) rfl ?_
    show Steps p.tables e below (s₁.setTop (mkF m 31 #[.val (.ref b), .val (.int p1), .val (.int (6 : Int32)), .val (.long (q &&& (((1 : Int64) <<< ((48 : Int32) &&& 0x3f).toInt64) - (1 : Int64)))), .second, .val (.int (5 : Int32))] [])) _
    refine XS.iinc X0.here hx rfl (hb hby d2_31) rfl (l' := #[.val (.ref b), .val (.int p1), .val (.int (6 : Int32)), .val (.long (q &&& (((1 : Int64) <<< ((48 : Int32) &&& 0x3f).toInt64) - (1 : Int64)))), .second, .val (.int ((5 : Int32) + (1 : Int32)))]) rfl ?_
    show Steps p.tables e below (s₁.setTop (mkF m 34 #[.val (.ref b), .val (.int p1), .val (.int (6 : Int32)), .val (.long (q &&& (((1 : Int64) <<< ((48 : Int32) &&& 0x3f).toInt64) - (1 : Int64)))), .second, .val (.int ((5 : Int32) + (1 : Int32)))] [])) _
    rw [show ((5 : Int32) + (1 : Int32)) = (6 : Int32) from (by decide : ((5 : Int32) + (1 : Int32)) = (6 : Int32))]
    show Steps p.tables e below (s₁.setTop (mkF m 34 #[.val (.ref b), .val (.int p1), .val (.int (6 : Int32)), .val (.long (q &&& (((1 : Int64) <<< ((48 : Int32) &&& 0x3f).toInt64) - (1 : Int64)))), .second, .val (.int (6 : Int32))] [])) _
    refine XS.goto X0.here hx rfl (pc0 := 34) (pc' := 5) rfl (hb hby d2_34) (by decide) (by decide) ?_
    show Steps p.tables e below (s₁.setTop (mkF m 5 #[.val (.ref b), .val (.int p1), .val (.int (6 : Int32)), .val (.long (q &&& (((1 : Int64) <<< ((48 : Int32) &&& 0x3f).toInt64) - (1 : Int64)))), .second, .val (.int (6 : Int32))] [])) _
    refine XS.iload X0.here hx rfl (hb hby d2_5) rfl ?_
    show Steps p.tables e below (s₁.setTop (mkF m 7 #[.val (.ref b), .val (.int p1), .val (.int (6 : Int32)), .val (.long (q &&& (((1 : Int64) <<< ((48 : Int32) &&& 0x3f).toInt64) - (1 : Int64)))), .second, .val (.int (6 : Int32))] [(.int (6 : Int32))])) _
    refine XS.iloadN X0.here hx rfl (hb hby d2_7) rfl ?_
    show Steps p.tables e below (s₁.setTop (mkF m 8 #[.val (.ref b), .val (.int p1), .val (.int (6 : Int32)), .val (.long (q &&& (((1 : Int64) <<< ((48 : Int32) &&& 0x3f).toInt64) - (1 : Int64)))), .second, .val (.int (6 : Int32))] [(.int (6 : Int32)), (.int (6 : Int32))])) _
    refine XS.icmpYes X0.here hx rfl (pc0 := 8) (pc' := 37) rfl (hb hby d2_8) rfl (by decide) (by decide) (by decide) ?_
    show Steps p.tables e below (s₁.setTop (mkF m 37 #[.val (.ref b), .val (.int p1), .val (.int (6 : Int32)), .val (.long (q &&& (((1 : Int64) <<< ((48 : Int32) &&& 0x3f).toInt64) - (1 : Int64)))), .second, .val (.int (6 : Int32))] [])) _
    refine XS.lloadN X0.here hx rfl (hb hby d2_37) rfl ?_
    show Steps p.tables e below (s₁.setTop (mkF m 38 #[.val (.ref b), .val (.int p1), .val (.int (6 : Int32)), .val (.long (q &&& (((1 : Int64) <<< ((48 : Int32) &&& 0x3f).toInt64) - (1 : Int64)))), .second, .val (.int (6 : Int32))] [(.long (q &&& (((1 : Int64) <<< ((48 : Int32) &&& 0x3f).toInt64) - (1 : Int64))))])) _
    exact kq)
  obtain ⟨fs, hr, hrun, hended, hW, hsame⟩ := X0.leave (v := some (.long (q &&& (((1 : Int64) <<< ((48 : Int32) &&& 0x3f).toInt64) - (1 : Int64))))) (fun h => by rw [Bd.returns] at h; cases h)
  refine ⟨_, _, (by rw [← hA0]; exact G77 _ (retOut X0 hx (t := .long) Bd.returns rfl (Or.inr (Or.inl ⟨rfl, rfl, _, rfl⟩)) (hb hby d2_38) hr)), hrun, hended, _, _, rfl, ?_, ⟨_, rfl⟩, hW, hsame.mono (by decide) (by decide)⟩
  exact ⟨rfl, N0, e0⟩
set_option maxRecDepth 65536 in
set_option maxHeartbeats 40000000 in
theorem rm2_7 (l : Launch) (Z : State) (a0 : Array Value) (hw : ∀ d ∈ tables_1, d.before a0 Z = true) (ws : List Jvm.Cond) (b : Addr) (p1 : Int32) (q : Int64) (kb : ClassId) (vs : List Value) (h0 : Heap) (n0 : Nat) (Z0 : n0 ≤ h0.size) (A : Arv Z h0 b kb .byte (12 : Int32) vs (.int (0 : Int32))) (hat : own_Hat vs p1 q) :
    MetFree l (⟨"com/example/ledgerline/ledgerline/format/GrowingBytes", "littleEndian", "([BII)J"⟩ : MethodName) (head1 (Jvm.Cond.code (⟨"com/example/ledgerline/ledgerline/format/GrowingBytes", "littleEndian", "([BII)J"⟩ : MethodName) prog_17_method_11_code 6 (some .long) :: ws) ({ frames := 0, cells := 0, slots := 0, locals := 0 } : Room)) (fun aa UU => aa = #[(.ref b), (.int p1), (.int (7 : Int32))] ∧ Z.Warmed39 UU.vm ∧ UU.heap = h0) (fun _ _ _ _ _ => True) (fun _ UU oo U' => ∃ v L, oo = .returned v ∧ Qr (.long (q &&& (((1 : Int64) <<< ((56 : Int32) &&& 0x3f).toInt64) - (1 : Int64)))) h0 n0 v U'.heap L ∧ FrameEnd UU oo U' L ({ frames := 0, cells := 0, slots := 0, locals := 0 } : Room).cells ({ frames := 0, cells := 0, slots := 0, locals := 0 } : Room).slots) := by
  refine MetFree.of_bodySF (plainFor_of_name pn_1) hisR ?_
  intro p e s m args below meth c s₁ Bd hml0 hP hK
  obtain ⟨rfl, hZ, hh⟩ := hP
  have hx := Bd.exec
  have hby := Bd.bytes
  have hml : c.maxLocals = 6 := hml0
  have hown : s.vm.findClass "com/example/ledgerline/ledgerline/format/GrowingBytes" = some m.cls := findClass_of_methodNamed Bd.named
  have hnm := (name_of_methodNamed Bd.named Bd.method).1
  have X0 : Stand p l e ({ frames := 0, cells := 0, slots := 0, locals := 0 } : Room) s m #[(.ref b), (.int p1), (.int (7 : Int32))] below meth c s₁ [] 0 0 := Stand.of_body Bd
  have e0 : s₁.heap = h0 := by rw [← hh, Bd.state]; rfl
  have N0 := Fr.nil n0
  obtain ⟨A0, hA0⟩ : ∃ A, A = s₁.setTop (entryFrame m #[(.ref b), (.int p1), (.int (7 : Int32))] 6) := ⟨_, rfl⟩
  have G0 : Go p e below A0 (s₁.setTop (mkF m 0 #[.val (.ref b), .val (.int p1), .val (.int (7 : Int32)), .unset, .unset, .unset] [])) := fun tq kq => by rw [hA0]; exact castTop (ef_rm2_7 m b p1 (7 : Int32)) kq
  have G78 : Go p e below A0 (s₁.setTop (mkF m 17 #[.val (.ref b), .val (.int p1), .val (.int (7 : Int32)), .val (.long (0 : Int64)), .second, .val (.int (0 : Int32))] [(.int (p1 + (0 : Int32))), (.ref b), (.long (0 : Int64))])) := fun tq kq => G0 tq (by
    refine XS.lconst X0.here hx rfl (hb hby d2_0) ?_
    show Steps p.tables e below (s₁.setTop (mkF m 1 #[.val (.ref b), .val (.int p1), .val (.int (7 : Int32)), .unset, .unset, .unset] [(.long (0 : Int64))])) _
    refine XS.lstoreN X0.here hx rfl (hb hby d2_1) rfl (l' := #[.val (.ref b), .val (.int p1), .val (.int (7 : Int32)), .val (.long (0 : Int64)), .second, .unset]) rfl ?_
    show Steps p.tables e below (s₁.setTop (mkF m 2 #[.val (.ref b), .val (.int p1), .val (.int (7 : Int32)), .val (.long (0 : Int64)), .second, .unset] [])) _
    refine XS.iconst X0.here hx rfl (hb hby d2_2) ?_
    show Steps p.tables e below (s₁.setTop (mkF m 3 #[.val (.ref b), .val (.int p1), .val (.int (7 : Int32)), .val (.long (0 : Int64)), .second, .unset] [(.int (0 : Int32))])) _
    refine XS.istore X0.here hx rfl (hb hby d2_3) rfl (l' := #[.val (.ref b), .val (.int p1), .val (.int (7 : Int32)), .val (.long (0 : Int64)), .second, .val (.int (0 : Int32))]) rfl ?_
    show Steps p.tables e below (s₁.setTop (mkF m 5 #[.val (.ref b), .val (.int p1), .val (.int (7 : Int32)), .val (.long (0 : Int64)), .second, .val (.int (0 : Int32))] [])) _
    refine XS.iload X0.here hx rfl (hb hby d2_5) rfl ?_
    show Steps p.tables e below (s₁.setTop (mkF m 7 #[.val (.ref b), .val (.int p1), .val (.int (7 : Int32)), .val (.long (0 : Int64)), .second, .val (.int (0 : Int32))] [(.int (0 : Int32))])) _
    refine XS.iloadN X0.here hx rfl (hb hby d2_7) rfl ?_
    show Steps p.tables e below (s₁.setTop (mkF m 8 #[.val (.ref b), .val (.int p1), .val (.int (7 : Int32)), .val (.long (0 : Int64)), .second, .val (.int (0 : Int32))] [(.int (7 : Int32)), (.int (0 : Int32))])) _
    refine XS.icmpNo X0.here hx rfl (hb hby d2_8) rfl (by decide) ?_
    show Steps p.tables e below (s₁.setTop (mkF m 11 #[.val (.ref b), .val (.int p1), .val (.int (7 : Int32)), .val (.long (0 : Int64)), .second, .val (.int (0 : Int32))] [])) _
    refine XS.lloadN X0.here hx rfl (hb hby d2_11) rfl ?_
    show Steps p.tables e below (s₁.setTop (mkF m 12 #[.val (.ref b), .val (.int p1), .val (.int (7 : Int32)), .val (.long (0 : Int64)), .second, .val (.int (0 : Int32))] [(.long (0 : Int64))])) _
    refine XS.aloadN X0.here hx rfl (hb hby d2_12) rfl rfl ?_
    show Steps p.tables e below (s₁.setTop (mkF m 13 #[.val (.ref b), .val (.int p1), .val (.int (7 : Int32)), .val (.long (0 : Int64)), .second, .val (.int (0 : Int32))] [(.ref b), (.long (0 : Int64))])) _
    refine XS.iloadN X0.here hx rfl (hb hby d2_13) rfl ?_
    show Steps p.tables e below (s₁.setTop (mkF m 14 #[.val (.ref b), .val (.int p1), .val (.int (7 : Int32)), .val (.long (0 : Int64)), .second, .val (.int (0 : Int32))] [(.int p1), (.ref b), (.long (0 : Int64))])) _
    refine XS.iload X0.here hx rfl (hb hby d2_14) rfl ?_
    show Steps p.tables e below (s₁.setTop (mkF m 16 #[.val (.ref b), .val (.int p1), .val (.int (7 : Int32)), .val (.long (0 : Int64)), .second, .val (.int (0 : Int32))] [(.int (0 : Int32)), (.int p1), (.ref b), (.long (0 : Int64))])) _
    refine XS.iadd X0.here hx rfl (hb hby d2_16) rfl ?_
    show Steps p.tables e below (s₁.setTop (mkF m 17 #[.val (.ref b), .val (.int p1), .val (.int (7 : Int32)), .val (.long (0 : Int64)), .second, .val (.int (0 : Int32))] [(.int (p1 + (0 : Int32))), (.ref b), (.long (0 : Int64))])) _
    exact kq)
  obtain ⟨cl79, Ar79, q79, S79, M79, H79, Gf79⟩ := id A
  have hi80 : ¬ ((p1 + (0 : Int32)) < 0 ∨ cl79.slots.size ≤ ((p1 + (0 : Int32))).toNatClampNeg) := (inb_of S79 (hat (0 : Int32) (Or.inl rfl)).1)
  have G81 : Go p e below A0 (s₁.setTop (mkF m 17 #[.val (.ref b), .val (.int p1), .val (.int (7 : Int32)), .val (.long (q &&& (((1 : Int64) <<< ((8 : Int32) &&& 0x3f).toInt64) - (1 : Int64)))), .second, .val (.int (1 : Int32))] [(.int (p1 + (1 : Int32))), (.ref b), (.long (q &&& (((1 : Int64) <<< ((8 : Int32) &&& 0x3f).toInt64) - (1 : Int64))))])) := fun tq kq => G78 tq (by
    refine X0.baloadBytes hx (j := (p1 + (0 : Int32))) (v := (.int (own_by q (0 : Int32)))) (by rw [e0]; exact Ar79.1) (State.isArrayOf_alike hZ.alike Ar79.2.1) Ar79.2.2 hi80 (H79.at hi80 (hat (0 : Int32) (Or.inl rfl)).2) (g := (mkF m 17 #[.val (.ref b), .val (.int p1), .val (.int (7 : Int32)), .val (.long (0 : Int64)), .second, .val (.int (0 : Int32))] [(.int (p1 + (0 : Int32))), (.ref b), (.long (0 : Int64))])) rfl rfl (hb hby d2_17) _ ?_
    show Steps p.tables e below (s₁.setTop (mkF m 18 #[.val (.ref b), .val (.int p1), .val (.int (7 : Int32)), .val (.long (0 : Int64)), .second, .val (.int (0 : Int32))] [(.int (own_by q (0 : Int32))), (.long (0 : Int64))])) _
    refine XS.sipush X0.here hx rfl (hb hby d2_18) ?_
    show Steps p.tables e below (s₁.setTop (mkF m 21 #[.val (.ref b), .val (.int p1), .val (.int (7 : Int32)), .val (.long (0 : Int64)), .second, .val (.int (0 : Int32))] [(.int (255 : Int32)), (.int (own_by q (0 : Int32))), (.long (0 : Int64))])) _
    refine XS.iand X0.here hx rfl (hb hby d2_21) rfl ?_
    show Steps p.tables e below (s₁.setTop (mkF m 22 #[.val (.ref b), .val (.int p1), .val (.int (7 : Int32)), .val (.long (0 : Int64)), .second, .val (.int (0 : Int32))] [(.int ((own_by q (0 : Int32)) &&& (255 : Int32))), (.long (0 : Int64))])) _
    refine XS.i2l X0.here hx rfl (hb hby d2_22) rfl ?_
    show Steps p.tables e below (s₁.setTop (mkF m 23 #[.val (.ref b), .val (.int p1), .val (.int (7 : Int32)), .val (.long (0 : Int64)), .second, .val (.int (0 : Int32))] [(.long ((own_by q (0 : Int32)) &&& (255 : Int32)).toInt64), (.long (0 : Int64))])) _
    refine XS.bipush X0.here hx rfl (hb hby d2_23) ?_
    show Steps p.tables e below (s₁.setTop (mkF m 25 #[.val (.ref b), .val (.int p1), .val (.int (7 : Int32)), .val (.long (0 : Int64)), .second, .val (.int (0 : Int32))] [(.int (8 : Int32)), (.long ((own_by q (0 : Int32)) &&& (255 : Int32)).toInt64), (.long (0 : Int64))])) _
    refine XS.iload X0.here hx rfl (hb hby d2_25) rfl ?_
    show Steps p.tables e below (s₁.setTop (mkF m 27 #[.val (.ref b), .val (.int p1), .val (.int (7 : Int32)), .val (.long (0 : Int64)), .second, .val (.int (0 : Int32))] [(.int (0 : Int32)), (.int (8 : Int32)), (.long ((own_by q (0 : Int32)) &&& (255 : Int32)).toInt64), (.long (0 : Int64))])) _
    refine XS.imul X0.here hx rfl (hb hby d2_27) rfl ?_
    show Steps p.tables e below (s₁.setTop (mkF m 28 #[.val (.ref b), .val (.int p1), .val (.int (7 : Int32)), .val (.long (0 : Int64)), .second, .val (.int (0 : Int32))] [(.int ((8 : Int32) * (0 : Int32))), (.long ((own_by q (0 : Int32)) &&& (255 : Int32)).toInt64), (.long (0 : Int64))])) _
    rw [show ((8 : Int32) * (0 : Int32)) = (0 : Int32) from (by decide : ((8 : Int32) * (0 : Int32)) = (0 : Int32))]
    show Steps p.tables e below (s₁.setTop (mkF m 28 #[.val (.ref b), .val (.int p1), .val (.int (7 : Int32)), .val (.long (0 : Int64)), .second, .val (.int (0 : Int32))] [(.int (0 : Int32)), (.long ((own_by q (0 : Int32)) &&& (255 : Int32)).toInt64), (.long (0 : Int64))])) _
    refine XS.lshl X0.here hx rfl (hb hby d2_28) rfl ?_
    show Steps p.tables e below (s₁.setTop (mkF m 29 #[.val (.ref b), .val (.int p1), .val (.int (7 : Int32)), .val (.long (0 : Int64)), .second, .val (.int (0 : Int32))] [(.long (((own_by q (0 : Int32)) &&& (255 : Int32)).toInt64 <<< ((0 : Int32) &&& 0x3f).toInt64)), (.long (0 : Int64))])) _
    refine XS.lor X0.here hx rfl (hb hby d2_29) rfl ?_
    show Steps p.tables e below (s₁.setTop (mkF m 30 #[.val (.ref b), .val (.int p1), .val (.int (7 : Int32)), .val (.long (0 : Int64)), .second, .val (.int (0 : Int32))] [(.long ((0 : Int64) ||| (((own_by q (0 : Int32)) &&& (255 : Int32)).toInt64 <<< ((0 : Int32) &&& 0x3f).toInt64)))])) _
    rw [show ((0 : Int64) ||| (((own_by q (0 : Int32)) &&& (255 : Int32)).toInt64 <<< ((0 : Int32) &&& 0x3f).toInt64)) = (q &&& (((1 : Int64) <<< ((8 : Int32) &&& 0x3f).toInt64) - (1 : Int64))) from own_step_0 q]
    show Steps p.tables e below (s₁.setTop (mkF m 30 #[.val (.ref b), .val (.int p1), .val (.int (7 : Int32)), .val (.long (0 : Int64)), .second, .val (.int (0 : Int32))] [(.long (q &&& (((1 : Int64) <<< ((8 : Int32) &&& 0x3f).toInt64) - (1 : Int64))))])) _
    refine XS.lstoreN X0.here hx rfl (hb hby d2_30) rfl (l' := #[.val (.ref b), .val (.int p1), .val (.int (7 : Int32)), .val (.long (q &&& (((1 : Int64) <<< ((8 : Int32) &&& 0x3f).toInt64) - (1 : Int64)))), .second, .val (.int (0 : Int32))]) rfl ?_
    show Steps p.tables e below (s₁.setTop (mkF m 31 #[.val (.ref b), .val (.int p1), .val (.int (7 : Int32)), .val (.long (q &&& (((1 : Int64) <<< ((8 : Int32) &&& 0x3f).toInt64) - (1 : Int64)))), .second, .val (.int (0 : Int32))] [])) _
    refine XS.iinc X0.here hx rfl (hb hby d2_31) rfl (l' := #[.val (.ref b), .val (.int p1), .val (.int (7 : Int32)), .val (.long (q &&& (((1 : Int64) <<< ((8 : Int32) &&& 0x3f).toInt64) - (1 : Int64)))), .second, .val (.int ((0 : Int32) + (1 : Int32)))]) rfl ?_
    show Steps p.tables e below (s₁.setTop (mkF m 34 #[.val (.ref b), .val (.int p1), .val (.int (7 : Int32)), .val (.long (q &&& (((1 : Int64) <<< ((8 : Int32) &&& 0x3f).toInt64) - (1 : Int64)))), .second, .val (.int ((0 : Int32) + (1 : Int32)))] [])) _
    rw [show ((0 : Int32) + (1 : Int32)) = (1 : Int32) from (by decide : ((0 : Int32) + (1 : Int32)) = (1 : Int32))]
    show Steps p.tables e below (s₁.setTop (mkF m 34 #[.val (.ref b), .val (.int p1), .val (.int (7 : Int32)), .val (.long (q &&& (((1 : Int64) <<< ((8 : Int32) &&& 0x3f).toInt64) - (1 : Int64)))), .second, .val (.int (1 : Int32))] [])) _
    refine XS.goto X0.here hx rfl (pc0 := 34) (pc' := 5) rfl (hb hby d2_34) (by decide) (by decide) ?_
    show Steps p.tables e below (s₁.setTop (mkF m 5 #[.val (.ref b), .val (.int p1), .val (.int (7 : Int32)), .val (.long (q &&& (((1 : Int64) <<< ((8 : Int32) &&& 0x3f).toInt64) - (1 : Int64)))), .second, .val (.int (1 : Int32))] [])) _
    refine XS.iload X0.here hx rfl (hb hby d2_5) rfl ?_
    show Steps p.tables e below (s₁.setTop (mkF m 7 #[.val (.ref b), .val (.int p1), .val (.int (7 : Int32)), .val (.long (q &&& (((1 : Int64) <<< ((8 : Int32) &&& 0x3f).toInt64) - (1 : Int64)))), .second, .val (.int (1 : Int32))] [(.int (1 : Int32))])) _
    refine XS.iloadN X0.here hx rfl (hb hby d2_7) rfl ?_
    show Steps p.tables e below (s₁.setTop (mkF m 8 #[.val (.ref b), .val (.int p1), .val (.int (7 : Int32)), .val (.long (q &&& (((1 : Int64) <<< ((8 : Int32) &&& 0x3f).toInt64) - (1 : Int64)))), .second, .val (.int (1 : Int32))] [(.int (7 : Int32)), (.int (1 : Int32))])) _
    refine XS.icmpNo X0.here hx rfl (hb hby d2_8) rfl (by decide) ?_
    show Steps p.tables e below (s₁.setTop (mkF m 11 #[.val (.ref b), .val (.int p1), .val (.int (7 : Int32)), .val (.long (q &&& (((1 : Int64) <<< ((8 : Int32) &&& 0x3f).toInt64) - (1 : Int64)))), .second, .val (.int (1 : Int32))] [])) _
    refine XS.lloadN X0.here hx rfl (hb hby d2_11) rfl ?_
    show Steps p.tables e below (s₁.setTop (mkF m 12 #[.val (.ref b), .val (.int p1), .val (.int (7 : Int32)), .val (.long (q &&& (((1 : Int64) <<< ((8 : Int32) &&& 0x3f).toInt64) - (1 : Int64)))), .second, .val (.int (1 : Int32))] [(.long (q &&& (((1 : Int64) <<< ((8 : Int32) &&& 0x3f).toInt64) - (1 : Int64))))])) _
    refine XS.aloadN X0.here hx rfl (hb hby d2_12) rfl rfl ?_
    show Steps p.tables e below (s₁.setTop (mkF m 13 #[.val (.ref b), .val (.int p1), .val (.int (7 : Int32)), .val (.long (q &&& (((1 : Int64) <<< ((8 : Int32) &&& 0x3f).toInt64) - (1 : Int64)))), .second, .val (.int (1 : Int32))] [(.ref b), (.long (q &&& (((1 : Int64) <<< ((8 : Int32) &&& 0x3f).toInt64) - (1 : Int64))))])) _
    refine XS.iloadN X0.here hx rfl (hb hby d2_13) rfl ?_
    show Steps p.tables e below (s₁.setTop (mkF m 14 #[.val (.ref b), .val (.int p1), .val (.int (7 : Int32)), .val (.long (q &&& (((1 : Int64) <<< ((8 : Int32) &&& 0x3f).toInt64) - (1 : Int64)))), .second, .val (.int (1 : Int32))] [(.int p1), (.ref b), (.long (q &&& (((1 : Int64) <<< ((8 : Int32) &&& 0x3f).toInt64) - (1 : Int64))))])) _
    refine XS.iload X0.here hx rfl (hb hby d2_14) rfl ?_
    show Steps p.tables e below (s₁.setTop (mkF m 16 #[.val (.ref b), .val (.int p1), .val (.int (7 : Int32)), .val (.long (q &&& (((1 : Int64) <<< ((8 : Int32) &&& 0x3f).toInt64) - (1 : Int64)))), .second, .val (.int (1 : Int32))] [(.int (1 : Int32)), (.int p1), (.ref b), (.long (q &&& (((1 : Int64) <<< ((8 : Int32) &&& 0x3f).toInt64) - (1 : Int64))))])) _
    refine XS.iadd X0.here hx rfl (hb hby d2_16) rfl ?_
    show Steps p.tables e below (s₁.setTop (mkF m 17 #[.val (.ref b), .val (.int p1), .val (.int (7 : Int32)), .val (.long (q &&& (((1 : Int64) <<< ((8 : Int32) &&& 0x3f).toInt64) - (1 : Int64)))), .second, .val (.int (1 : Int32))] [(.int (p1 + (1 : Int32))), (.ref b), (.long (q &&& (((1 : Int64) <<< ((8 : Int32) &&& 0x3f).toInt64) - (1 : Int64))))])) _
    exact kq)
  obtain ⟨cl82, Ar82, q82, S82, M82, H82, Gf82⟩ := id A
  have hi83 : ¬ ((p1 + (1 : Int32)) < 0 ∨ cl82.slots.size ≤ ((p1 + (1 : Int32))).toNatClampNeg) := (inb_of S82 (hat (1 : Int32) (Or.inr (Or.inl rfl))).1)
  have G84 : Go p e below A0 (s₁.setTop (mkF m 17 #[.val (.ref b), .val (.int p1), .val (.int (7 : Int32)), .val (.long (q &&& (((1 : Int64) <<< ((16 : Int32) &&& 0x3f).toInt64) - (1 : Int64)))), .second, .val (.int (2 : Int32))] [(.int (p1 + (2 : Int32))), (.ref b), (.long (q &&& (((1 : Int64) <<< ((16 : Int32) &&& 0x3f).toInt64) - (1 : Int64))))])) := fun tq kq => G81 tq (by
    refine X0.baloadBytes hx (j := (p1 + (1 : Int32))) (v := (.int (own_by q (1 : Int32)))) (by rw [e0]; exact Ar82.1) (State.isArrayOf_alike hZ.alike Ar82.2.1) Ar82.2.2 hi83 (H82.at hi83 (hat (1 : Int32) (Or.inr (Or.inl rfl))).2) (g := (mkF m 17 #[.val (.ref b), .val (.int p1), .val (.int (7 : Int32)), .val (.long (q &&& (((1 : Int64) <<< ((8 : Int32) &&& 0x3f).toInt64) - (1 : Int64)))), .second, .val (.int (1 : Int32))] [(.int (p1 + (1 : Int32))), (.ref b), (.long (q &&& (((1 : Int64) <<< ((8 : Int32) &&& 0x3f).toInt64) - (1 : Int64))))])) rfl rfl (hb hby d2_17) _ ?_
    show Steps p.tables e below (s₁.setTop (mkF m 18 #[.val (.ref b), .val (.int p1), .val (.int (7 : Int32)), .val (.long (q &&& (((1 : Int64) <<< ((8 : Int32) &&& 0x3f).toInt64) - (1 : Int64)))), .second, .val (.int (1 : Int32))] [(.int (own_by q (1 : Int32))), (.long (q &&& (((1 : Int64) <<< ((8 : Int32) &&& 0x3f).toInt64) - (1 : Int64))))])) _
    refine XS.sipush X0.here hx rfl (hb hby d2_18) ?_
    show Steps p.tables e below (s₁.setTop (mkF m 21 #[.val (.ref b), .val (.int p1), .val (.int (7 : Int32)), .val (.long (q &&& (((1 : Int64) <<< ((8 : Int32) &&& 0x3f).toInt64) - (1 : Int64)))), .second, .val (.int (1 : Int32))] [(.int (255 : Int32)), (.int (own_by q (1 : Int32))), (.long (q &&& (((1 : Int64) <<< ((8 : Int32) &&& 0x3f).toInt64) - (1 : Int64))))])) _
    refine XS.iand X0.here hx rfl (hb hby d2_21) rfl ?_
    show Steps p.tables e below (s₁.setTop (mkF m 22 #[.val (.ref b), .val (.int p1), .val (.int (7 : Int32)), .val (.long (q &&& (((1 : Int64) <<< ((8 : Int32) &&& 0x3f).toInt64) - (1 : Int64)))), .second, .val (.int (1 : Int32))] [(.int ((own_by q (1 : Int32)) &&& (255 : Int32))), (.long (q &&& (((1 : Int64) <<< ((8 : Int32) &&& 0x3f).toInt64) - (1 : Int64))))])) _
    refine XS.i2l X0.here hx rfl (hb hby d2_22) rfl ?_
    show Steps p.tables e below (s₁.setTop (mkF m 23 #[.val (.ref b), .val (.int p1), .val (.int (7 : Int32)), .val (.long (q &&& (((1 : Int64) <<< ((8 : Int32) &&& 0x3f).toInt64) - (1 : Int64)))), .second, .val (.int (1 : Int32))] [(.long ((own_by q (1 : Int32)) &&& (255 : Int32)).toInt64), (.long (q &&& (((1 : Int64) <<< ((8 : Int32) &&& 0x3f).toInt64) - (1 : Int64))))])) _
    refine XS.bipush X0.here hx rfl (hb hby d2_23) ?_
    show Steps p.tables e below (s₁.setTop (mkF m 25 #[.val (.ref b), .val (.int p1), .val (.int (7 : Int32)), .val (.long (q &&& (((1 : Int64) <<< ((8 : Int32) &&& 0x3f).toInt64) - (1 : Int64)))), .second, .val (.int (1 : Int32))] [(.int (8 : Int32)), (.long ((own_by q (1 : Int32)) &&& (255 : Int32)).toInt64), (.long (q &&& (((1 : Int64) <<< ((8 : Int32) &&& 0x3f).toInt64) - (1 : Int64))))])) _
    refine XS.iload X0.here hx rfl (hb hby d2_25) rfl ?_
    show Steps p.tables e below (s₁.setTop (mkF m 27 #[.val (.ref b), .val (.int p1), .val (.int (7 : Int32)), .val (.long (q &&& (((1 : Int64) <<< ((8 : Int32) &&& 0x3f).toInt64) - (1 : Int64)))), .second, .val (.int (1 : Int32))] [(.int (1 : Int32)), (.int (8 : Int32)), (.long ((own_by q (1 : Int32)) &&& (255 : Int32)).toInt64), (.long (q &&& (((1 : Int64) <<< ((8 : Int32) &&& 0x3f).toInt64) - (1 : Int64))))])) _
    refine XS.imul X0.here hx rfl (hb hby d2_27) rfl ?_
    show Steps p.tables e below (s₁.setTop (mkF m 28 #[.val (.ref b), .val (.int p1), .val (.int (7 : Int32)), .val (.long (q &&& (((1 : Int64) <<< ((8 : Int32) &&& 0x3f).toInt64) - (1 : Int64)))), .second, .val (.int (1 : Int32))] [(.int ((8 : Int32) * (1 : Int32))), (.long ((own_by q (1 : Int32)) &&& (255 : Int32)).toInt64), (.long (q &&& (((1 : Int64) <<< ((8 : Int32) &&& 0x3f).toInt64) - (1 : Int64))))])) _
    rw [show ((8 : Int32) * (1 : Int32)) = (8 : Int32) from (by decide : ((8 : Int32) * (1 : Int32)) = (8 : Int32))]
    show Steps p.tables e below (s₁.setTop (mkF m 28 #[.val (.ref b), .val (.int p1), .val (.int (7 : Int32)), .val (.long (q &&& (((1 : Int64) <<< ((8 : Int32) &&& 0x3f).toInt64) - (1 : Int64)))), .second, .val (.int (1 : Int32))] [(.int (8 : Int32)), (.long ((own_by q (1 : Int32)) &&& (255 : Int32)).toInt64), (.long (q &&& (((1 : Int64) <<< ((8 : Int32) &&& 0x3f).toInt64) - (1 : Int64))))])) _
    refine XS.lshl X0.here hx rfl (hb hby d2_28) rfl ?_
    show Steps p.tables e below (s₁.setTop (mkF m 29 #[.val (.ref b), .val (.int p1), .val (.int (7 : Int32)), .val (.long (q &&& (((1 : Int64) <<< ((8 : Int32) &&& 0x3f).toInt64) - (1 : Int64)))), .second, .val (.int (1 : Int32))] [(.long (((own_by q (1 : Int32)) &&& (255 : Int32)).toInt64 <<< ((8 : Int32) &&& 0x3f).toInt64)), (.long (q &&& (((1 : Int64) <<< ((8 : Int32) &&& 0x3f).toInt64) - (1 : Int64))))])) _
    refine XS.lor X0.here hx rfl (hb hby d2_29) rfl ?_
    show Steps p.tables e below (s₁.setTop (mkF m 30 #[.val (.ref b), .val (.int p1), .val (.int (7 : Int32)), .val (.long (q &&& (((1 : Int64) <<< ((8 : Int32) &&& 0x3f).toInt64) - (1 : Int64)))), .second, .val (.int (1 : Int32))] [(.long ((q &&& (((1 : Int64) <<< ((8 : Int32) &&& 0x3f).toInt64) - (1 : Int64))) ||| (((own_by q (1 : Int32)) &&& (255 : Int32)).toInt64 <<< ((8 : Int32) &&& 0x3f).toInt64)))])) _
    rw [show ((q &&& (((1 : Int64) <<< ((8 : Int32) &&& 0x3f).toInt64) - (1 : Int64))) ||| (((own_by q (1 : Int32)) &&& (255 : Int32)).toInt64 <<< ((8 : Int32) &&& 0x3f).toInt64)) = (q &&& (((1 : Int64) <<< ((16 : Int32) &&& 0x3f).toInt64) - (1 : Int64))) from own_step_1 q]
    show Steps p.tables e below (s₁.setTop (mkF m 30 #[.val (.ref b), .val (.int p1), .val (.int (7 : Int32)), .val (.long (q &&& (((1 : Int64) <<< ((8 : Int32) &&& 0x3f).toInt64) - (1 : Int64)))), .second, .val (.int (1 : Int32))] [(.long (q &&& (((1 : Int64) <<< ((16 : Int32) &&& 0x3f).toInt64) - (1 : Int64))))])) _
    refine XS.lstoreN X0.here hx rfl (hb hby d2_30) rfl (l' := #[.val (.ref b), .val (.int p1), .val (.int (7 : Int32)), .val (.long (q &&& (((1 : Int64) <<< ((16 : Int32) &&& 0x3f).toInt64) - (1 : Int64)))), .second, .val (.int (1 : Int32))]) rfl ?_
    show Steps p.tables e below (s₁.setTop (mkF m 31 #[.val (.ref b), .val (.int p1), .val (.int (7 : Int32)), .val (.long (q &&& (((1 : Int64) <<< ((16 : Int32) &&& 0x3f).toInt64) - (1 : Int64)))), .second, .val (.int (1 : Int32))] [])) _
    refine XS.iinc X0.here hx rfl (hb hby d2_31) rfl (l' := #[.val (.ref b), .val (.int p1), .val (.int (7 : Int32)), .val (.long (q &&& (((1 : Int64) <<< ((16 : Int32) &&& 0x3f).toInt64) - (1 : Int64)))), .second, .val (.int ((1 : Int32) + (1 : Int32)))]) rfl ?_
    show Steps p.tables e below (s₁.setTop (mkF m 34 #[.val (.ref b), .val (.int p1), .val (.int (7 : Int32)), .val (.long (q &&& (((1 : Int64) <<< ((16 : Int32) &&& 0x3f).toInt64) - (1 : Int64)))), .second, .val (.int ((1 : Int32) + (1 : Int32)))] [])) _
    rw [show ((1 : Int32) + (1 : Int32)) = (2 : Int32) from (by decide : ((1 : Int32) + (1 : Int32)) = (2 : Int32))]
    show Steps p.tables e below (s₁.setTop (mkF m 34 #[.val (.ref b), .val (.int p1), .val (.int (7 : Int32)), .val (.long (q &&& (((1 : Int64) <<< ((16 : Int32) &&& 0x3f).toInt64) - (1 : Int64)))), .second, .val (.int (2 : Int32))] [])) _
    refine XS.goto X0.here hx rfl (pc0 := 34) (pc' := 5) rfl (hb hby d2_34) (by decide) (by decide) ?_
    show Steps p.tables e below (s₁.setTop (mkF m 5 #[.val (.ref b), .val (.int p1), .val (.int (7 : Int32)), .val (.long (q &&& (((1 : Int64) <<< ((16 : Int32) &&& 0x3f).toInt64) - (1 : Int64)))), .second, .val (.int (2 : Int32))] [])) _
    refine XS.iload X0.here hx rfl (hb hby d2_5) rfl ?_
    show Steps p.tables e below (s₁.setTop (mkF m 7 #[.val (.ref b), .val (.int p1), .val (.int (7 : Int32)), .val (.long (q &&& (((1 : Int64) <<< ((16 : Int32) &&& 0x3f).toInt64) - (1 : Int64)))), .second, .val (.int (2 : Int32))] [(.int (2 : Int32))])) _
    refine XS.iloadN X0.here hx rfl (hb hby d2_7) rfl ?_
    show Steps p.tables e below (s₁.setTop (mkF m 8 #[.val (.ref b), .val (.int p1), .val (.int (7 : Int32)), .val (.long (q &&& (((1 : Int64) <<< ((16 : Int32) &&& 0x3f).toInt64) - (1 : Int64)))), .second, .val (.int (2 : Int32))] [(.int (7 : Int32)), (.int (2 : Int32))])) _
    refine XS.icmpNo X0.here hx rfl (hb hby d2_8) rfl (by decide) ?_
    show Steps p.tables e below (s₁.setTop (mkF m 11 #[.val (.ref b), .val (.int p1), .val (.int (7 : Int32)), .val (.long (q &&& (((1 : Int64) <<< ((16 : Int32) &&& 0x3f).toInt64) - (1 : Int64)))), .second, .val (.int (2 : Int32))] [])) _
    refine XS.lloadN X0.here hx rfl (hb hby d2_11) rfl ?_
    show Steps p.tables e below (s₁.setTop (mkF m 12 #[.val (.ref b), .val (.int p1), .val (.int (7 : Int32)), .val (.long (q &&& (((1 : Int64) <<< ((16 : Int32) &&& 0x3f).toInt64) - (1 : Int64)))), .second, .val (.int (2 : Int32))] [(.long (q &&& (((1 : Int64) <<< ((16 : Int32) &&& 0x3f).toInt64) - (1 : Int64))))])) _
    refine XS.aloadN X0.here hx rfl (hb hby d2_12) rfl rfl ?_
    show Steps p.tables e below (s₁.setTop (mkF m 13 #[.val (.ref b), .val (.int p1), .val (.int (7 : Int32)), .val (.long (q &&& (((1 : Int64) <<< ((16 : Int32) &&& 0x3f).toInt64) - (1 : Int64)))), .second, .val (.int (2 : Int32))] [(.ref b), (.long (q &&& (((1 : Int64) <<< ((16 : Int32) &&& 0x3f).toInt64) - (1 : Int64))))])) _
    refine XS.iloadN X0.here hx rfl (hb hby d2_13) rfl ?_
    show Steps p.tables e below (s₁.setTop (mkF m 14 #[.val (.ref b), .val (.int p1), .val (.int (7 : Int32)), .val (.long (q &&& (((1 : Int64) <<< ((16 : Int32) &&& 0x3f).toInt64) - (1 : Int64)))), .second, .val (.int (2 : Int32))] [(.int p1), (.ref b), (.long (q &&& (((1 : Int64) <<< ((16 : Int32) &&& 0x3f).toInt64) - (1 : Int64))))])) _
    refine XS.iload X0.here hx rfl (hb hby d2_14) rfl ?_
    show Steps p.tables e below (s₁.setTop (mkF m 16 #[.val (.ref b), .val (.int p1), .val (.int (7 : Int32)), .val (.long (q &&& (((1 : Int64) <<< ((16 : Int32) &&& 0x3f).toInt64) - (1 : Int64)))), .second, .val (.int (2 : Int32))] [(.int (2 : Int32)), (.int p1), (.ref b), (.long (q &&& (((1 : Int64) <<< ((16 : Int32) &&& 0x3f).toInt64) - (1 : Int64))))])) _
    refine XS.iadd X0.here hx rfl (hb hby d2_16) rfl ?_
    show Steps p.tables e below (s₁.setTop (mkF m 17 #[.val (.ref b), .val (.int p1), .val (.int (7 : Int32)), .val (.long (q &&& (((1 : Int64) <<< ((16 : Int32) &&& 0x3f).toInt64) - (1 : Int64)))), .second, .val (.int (2 : Int32))] [(.int (p1 + (2 : Int32))), (.ref b), (.long (q &&& (((1 : Int64) <<< ((16 : Int32) &&& 0x3f).toInt64) - (1 : Int64))))])) _
    exact kq)
  obtain ⟨cl85, Ar85, q85, S85, M85, H85, Gf85⟩ := id A
  have hi86 : ¬ ((p1 + (2 : Int32)) < 0 ∨ cl85.slots.size ≤ ((p1 + (2 : Int32))).toNatClampNeg) := (inb_of S85 (hat (2 : Int32) (Or.inr (Or.inr (Or.inl rfl)))).1)
  have G87 : Go p e below A0 (s₁.setTop (mkF m 17 #[.val (.ref b), .val (.int p1), .val (.int (7 : Int32)), .val (.long (q &&& (((1 : Int64) <<< ((24 : Int32) &&& 0x3f).toInt64) - (1 : Int64)))), .second, .val (.int (3 : Int32))] [(.int (p1 + (3 : Int32))), (.ref b), (.long (q &&& (((1 : Int64) <<< ((24 : Int32) &&& 0x3f).toInt64) - (1 : Int64))))])) := fun tq kq => G84 tq (by
    refine X0.baloadBytes hx (j := (p1 + (2 : Int32))) (v := (.int (own_by q (2 : Int32)))) (by rw [e0]; exact Ar85.1) (State.isArrayOf_alike hZ.alike Ar85.2.1) Ar85.2.2 hi86 (H85.at hi86 (hat (2 : Int32) (Or.inr (Or.inr (Or.inl rfl)))).2) (g := (mkF m 17 #[.val (.ref b), .val (.int p1), .val (.int (7 : Int32)), .val (.long (q &&& (((1 : Int64) <<< ((16 : Int32) &&& 0x3f).toInt64) - (1 : Int64)))), .second, .val (.int (2 : Int32))] [(.int (p1 + (2 : Int32))), (.ref b), (.long (q &&& (((1 : Int64) <<< ((16 : Int32) &&& 0x3f).toInt64) - (1 : Int64))))])) rfl rfl (hb hby d2_17) _ ?_
    show Steps p.tables e below (s₁.setTop (mkF m 18 #[.val (.ref b), .val (.int p1), .val (.int (7 : Int32)), .val (.long (q &&& (((1 : Int64) <<< ((16 : Int32) &&& 0x3f).toInt64) - (1 : Int64)))), .second, .val (.int (2 : Int32))] [(.int (own_by q (2 : Int32))), (.long (q &&& (((1 : Int64) <<< ((16 : Int32) &&& 0x3f).toInt64) - (1 : Int64))))])) _
    refine XS.sipush X0.here hx rfl (hb hby d2_18) ?_
    show Steps p.tables e below (s₁.setTop (mkF m 21 #[.val (.ref b), .val (.int p1), .val (.int (7 : Int32)), .val (.long (q &&& (((1 : Int64) <<< ((16 : Int32) &&& 0x3f).toInt64) - (1 : Int64)))), .second, .val (.int (2 : Int32))] [(.int (255 : Int32)), (.int (own_by q (2 : Int32))), (.long (q &&& (((1 : Int64) <<< ((16 : Int32) &&& 0x3f).toInt64) - (1 : Int64))))])) _
    refine XS.iand X0.here hx rfl (hb hby d2_21) rfl ?_
    show Steps p.tables e below (s₁.setTop (mkF m 22 #[.val (.ref b), .val (.int p1), .val (.int (7 : Int32)), .val (.long (q &&& (((1 : Int64) <<< ((16 : Int32) &&& 0x3f).toInt64) - (1 : Int64)))), .second, .val (.int (2 : Int32))] [(.int ((own_by q (2 : Int32)) &&& (255 : Int32))), (.long (q &&& (((1 : Int64) <<< ((16 : Int32) &&& 0x3f).toInt64) - (1 : Int64))))])) _
    refine XS.i2l X0.here hx rfl (hb hby d2_22) rfl ?_
    show Steps p.tables e below (s₁.setTop (mkF m 23 #[.val (.ref b), .val (.int p1), .val (.int (7 : Int32)), .val (.long (q &&& (((1 : Int64) <<< ((16 : Int32) &&& 0x3f).toInt64) - (1 : Int64)))), .second, .val (.int (2 : Int32))] [(.long ((own_by q (2 : Int32)) &&& (255 : Int32)).toInt64), (.long (q &&& (((1 : Int64) <<< ((16 : Int32) &&& 0x3f).toInt64) - (1 : Int64))))])) _
    refine XS.bipush X0.here hx rfl (hb hby d2_23) ?_
    show Steps p.tables e below (s₁.setTop (mkF m 25 #[.val (.ref b), .val (.int p1), .val (.int (7 : Int32)), .val (.long (q &&& (((1 : Int64) <<< ((16 : Int32) &&& 0x3f).toInt64) - (1 : Int64)))), .second, .val (.int (2 : Int32))] [(.int (8 : Int32)), (.long ((own_by q (2 : Int32)) &&& (255 : Int32)).toInt64), (.long (q &&& (((1 : Int64) <<< ((16 : Int32) &&& 0x3f).toInt64) - (1 : Int64))))])) _
    refine XS.iload X0.here hx rfl (hb hby d2_25) rfl ?_
    show Steps p.tables e below (s₁.setTop (mkF m 27 #[.val (.ref b), .val (.int p1), .val (.int (7 : Int32)), .val (.long (q &&& (((1 : Int64) <<< ((16 : Int32) &&& 0x3f).toInt64) - (1 : Int64)))), .second, .val (.int (2 : Int32))] [(.int (2 : Int32)), (.int (8 : Int32)), (.long ((own_by q (2 : Int32)) &&& (255 : Int32)).toInt64), (.long (q &&& (((1 : Int64) <<< ((16 : Int32) &&& 0x3f).toInt64) - (1 : Int64))))])) _
    refine XS.imul X0.here hx rfl (hb hby d2_27) rfl ?_
    show Steps p.tables e below (s₁.setTop (mkF m 28 #[.val (.ref b), .val (.int p1), .val (.int (7 : Int32)), .val (.long (q &&& (((1 : Int64) <<< ((16 : Int32) &&& 0x3f).toInt64) - (1 : Int64)))), .second, .val (.int (2 : Int32))] [(.int ((8 : Int32) * (2 : Int32))), (.long ((own_by q (2 : Int32)) &&& (255 : Int32)).toInt64), (.long (q &&& (((1 : Int64) <<< ((16 : Int32) &&& 0x3f).toInt64) - (1 : Int64))))])) _
    rw [show ((8 : Int32) * (2 : Int32)) = (16 : Int32) from (by decide : ((8 : Int32) * (2 : Int32)) = (16 : Int32))]
    show Steps p.tables e below (s₁.setTop (mkF m 28 #[.val (.ref b), .val (.int p1), .val (.int (7 : Int32)), .val (.long (q &&& (((1 : Int64) <<< ((16 : Int32) &&& 0x3f).toInt64) - (1 : Int64)))), .second, .val (.int (2 : Int32))] [(.int (16 : Int32)), (.long ((own_by q (2 : Int32)) &&& (255 : Int32)).toInt64), (.long (q &&& (((1 : Int64) <<< ((16 : Int32) &&& 0x3f).toInt64) - (1 : Int64))))])) _
    refine XS.lshl X0.here hx rfl (hb hby d2_28) rfl ?_
    show Steps p.tables e below (s₁.setTop (mkF m 29 #[.val (.ref b), .val (.int p1), .val (.int (7 : Int32)), .val (.long (q &&& (((1 : Int64) <<< ((16 : Int32) &&& 0x3f).toInt64) - (1 : Int64)))), .second, .val (.int (2 : Int32))] [(.long (((own_by q (2 : Int32)) &&& (255 : Int32)).toInt64 <<< ((16 : Int32) &&& 0x3f).toInt64)), (.long (q &&& (((1 : Int64) <<< ((16 : Int32) &&& 0x3f).toInt64) - (1 : Int64))))])) _
    refine XS.lor X0.here hx rfl (hb hby d2_29) rfl ?_
    show Steps p.tables e below (s₁.setTop (mkF m 30 #[.val (.ref b), .val (.int p1), .val (.int (7 : Int32)), .val (.long (q &&& (((1 : Int64) <<< ((16 : Int32) &&& 0x3f).toInt64) - (1 : Int64)))), .second, .val (.int (2 : Int32))] [(.long ((q &&& (((1 : Int64) <<< ((16 : Int32) &&& 0x3f).toInt64) - (1 : Int64))) ||| (((own_by q (2 : Int32)) &&& (255 : Int32)).toInt64 <<< ((16 : Int32) &&& 0x3f).toInt64)))])) _
    rw [show ((q &&& (((1 : Int64) <<< ((16 : Int32) &&& 0x3f).toInt64) - (1 : Int64))) ||| (((own_by q (2 : Int32)) &&& (255 : Int32)).toInt64 <<< ((16 : Int32) &&& 0x3f).toInt64)) = (q &&& (((1 : Int64) <<< ((24 : Int32) &&& 0x3f).toInt64) - (1 : Int64))) from own_step_2 q]
    show Steps p.tables e below (s₁.setTop (mkF m 30 #[.val (.ref b), .val (.int p1), .val (.int (7 : Int32)), .val (.long (q &&& (((1 : Int64) <<< ((16 : Int32) &&& 0x3f).toInt64) - (1 : Int64)))), .second, .val (.int (2 : Int32))] [(.long (q &&& (((1 : Int64) <<< ((24 : Int32) &&& 0x3f).toInt64) - (1 : Int64))))])) _
    refine XS.lstoreN X0.here hx rfl (hb hby d2_30) rfl (l' := #[.val (.ref b), .val (.int p1), .val (.int (7 : Int32)), .val (.long (q &&& (((1 : Int64) <<< ((24 : Int32) &&& 0x3f).toInt64) - (1 : Int64)))), .second, .val (.int (2 : Int32))]) rfl ?_
    show Steps p.tables e below (s₁.setTop (mkF m 31 #[.val (.ref b), .val (.int p1), .val (.int (7 : Int32)), .val (.long (q &&& (((1 : Int64) <<< ((24 : Int32) &&& 0x3f).toInt64) - (1 : Int64)))), .second, .val (.int (2 : Int32))] [])) _
    refine XS.iinc X0.here hx rfl (hb hby d2_31) rfl (l' := #[.val (.ref b), .val (.int p1), .val (.int (7 : Int32)), .val (.long (q &&& (((1 : Int64) <<< ((24 : Int32) &&& 0x3f).toInt64) - (1 : Int64)))), .second, .val (.int ((2 : Int32) + (1 : Int32)))]) rfl ?_
    show Steps p.tables e below (s₁.setTop (mkF m 34 #[.val (.ref b), .val (.int p1), .val (.int (7 : Int32)), .val (.long (q &&& (((1 : Int64) <<< ((24 : Int32) &&& 0x3f).toInt64) - (1 : Int64)))), .second, .val (.int ((2 : Int32) + (1 : Int32)))] [])) _
    rw [show ((2 : Int32) + (1 : Int32)) = (3 : Int32) from (by decide : ((2 : Int32) + (1 : Int32)) = (3 : Int32))]
    show Steps p.tables e below (s₁.setTop (mkF m 34 #[.val (.ref b), .val (.int p1), .val (.int (7 : Int32)), .val (.long (q &&& (((1 : Int64) <<< ((24 : Int32) &&& 0x3f).toInt64) - (1 : Int64)))), .second, .val (.int (3 : Int32))] [])) _
    refine XS.goto X0.here hx rfl (pc0 := 34) (pc' := 5) rfl (hb hby d2_34) (by decide) (by decide) ?_
    show Steps p.tables e below (s₁.setTop (mkF m 5 #[.val (.ref b), .val (.int p1), .val (.int (7 : Int32)), .val (.long (q &&& (((1 : Int64) <<< ((24 : Int32) &&& 0x3f).toInt64) - (1 : Int64)))), .second, .val (.int (3 : Int32))] [])) _
    refine XS.iload X0.here hx rfl (hb hby d2_5) rfl ?_
    show Steps p.tables e below (s₁.setTop (mkF m 7 #[.val (.ref b), .val (.int p1), .val (.int (7 : Int32)), .val (.long (q &&& (((1 : Int64) <<< ((24 : Int32) &&& 0x3f).toInt64) - (1 : Int64)))), .second, .val (.int (3 : Int32))] [(.int (3 : Int32))])) _
    refine XS.iloadN X0.here hx rfl (hb hby d2_7) rfl ?_
    show Steps p.tables e below (s₁.setTop (mkF m 8 #[.val (.ref b), .val (.int p1), .val (.int (7 : Int32)), .val (.long (q &&& (((1 : Int64) <<< ((24 : Int32) &&& 0x3f).toInt64) - (1 : Int64)))), .second, .val (.int (3 : Int32))] [(.int (7 : Int32)), (.int (3 : Int32))])) _
    refine XS.icmpNo X0.here hx rfl (hb hby d2_8) rfl (by decide) ?_
    show Steps p.tables e below (s₁.setTop (mkF m 11 #[.val (.ref b), .val (.int p1), .val (.int (7 : Int32)), .val (.long (q &&& (((1 : Int64) <<< ((24 : Int32) &&& 0x3f).toInt64) - (1 : Int64)))), .second, .val (.int (3 : Int32))] [])) _
    refine XS.lloadN X0.here hx rfl (hb hby d2_11) rfl ?_
    show Steps p.tables e below (s₁.setTop (mkF m 12 #[.val (.ref b), .val (.int p1), .val (.int (7 : Int32)), .val (.long (q &&& (((1 : Int64) <<< ((24 : Int32) &&& 0x3f).toInt64) - (1 : Int64)))), .second, .val (.int (3 : Int32))] [(.long (q &&& (((1 : Int64) <<< ((24 : Int32) &&& 0x3f).toInt64) - (1 : Int64))))])) _
    refine XS.aloadN X0.here hx rfl (hb hby d2_12) rfl rfl ?_
    show Steps p.tables e below (s₁.setTop (mkF m 13 #[.val (.ref b), .val (.int p1), .val (.int (7 : Int32)), .val (.long (q &&& (((1 : Int64) <<< ((24 : Int32) &&& 0x3f).toInt64) - (1 : Int64)))), .second, .val (.int (3 : Int32))] [(.ref b), (.long (q &&& (((1 : Int64) <<< ((24 : Int32) &&& 0x3f).toInt64) - (1 : Int64))))])) _
    refine XS.iloadN X0.here hx rfl (hb hby d2_13) rfl ?_
    show Steps p.tables e below (s₁.setTop (mkF m 14 #[.val (.ref b), .val (.int p1), .val (.int (7 : Int32)), .val (.long (q &&& (((1 : Int64) <<< ((24 : Int32) &&& 0x3f).toInt64) - (1 : Int64)))), .second, .val (.int (3 : Int32))] [(.int p1), (.ref b), (.long (q &&& (((1 : Int64) <<< ((24 : Int32) &&& 0x3f).toInt64) - (1 : Int64))))])) _
    refine XS.iload X0.here hx rfl (hb hby d2_14) rfl ?_
    show Steps p.tables e below (s₁.setTop (mkF m 16 #[.val (.ref b), .val (.int p1), .val (.int (7 : Int32)), .val (.long (q &&& (((1 : Int64) <<< ((24 : Int32) &&& 0x3f).toInt64) - (1 : Int64)))), .second, .val (.int (3 : Int32))] [(.int (3 : Int32)), (.int p1), (.ref b), (.long (q &&& (((1 : Int64) <<< ((24 : Int32) &&& 0x3f).toInt64) - (1 : Int64))))])) _
    refine XS.iadd X0.here hx rfl (hb hby d2_16) rfl ?_
    show Steps p.tables e below (s₁.setTop (mkF m 17 #[.val (.ref b), .val (.int p1), .val (.int (7 : Int32)), .val (.long (q &&& (((1 : Int64) <<< ((24 : Int32) &&& 0x3f).toInt64) - (1 : Int64)))), .second, .val (.int (3 : Int32))] [(.int (p1 + (3 : Int32))), (.ref b), (.long (q &&& (((1 : Int64) <<< ((24 : Int32) &&& 0x3f).toInt64) - (1 : Int64))))])) _
    exact kq)
  obtain ⟨cl88, Ar88, q88, S88, M88, H88, Gf88⟩ := id A
  have hi89 : ¬ ((p1 + (3 : Int32)) < 0 ∨ cl88.slots.size ≤ ((p1 + (3 : Int32))).toNatClampNeg) := (inb_of S88 (hat (3 : Int32) (Or.inr (Or.inr (Or.inr (Or.inl rfl))))).1)
  have G90 : Go p e below A0 (s₁.setTop (mkF m 17 #[.val (.ref b), .val (.int p1), .val (.int (7 : Int32)), .val (.long (q &&& (((1 : Int64) <<< ((32 : Int32) &&& 0x3f).toInt64) - (1 : Int64)))), .second, .val (.int (4 : Int32))] [(.int (p1 + (4 : Int32))), (.ref b), (.long (q &&& (((1 : Int64) <<< ((32 : Int32) &&& 0x3f).toInt64) - (1 : Int64))))])) := fun tq kq => G87 tq (by
    refine X0.baloadBytes hx (j := (p1 + (3 : Int32))) (v := (.int (own_by q (3 : Int32)))) (by rw [e0]; exact Ar88.1) (State.isArrayOf_alike hZ.alike Ar88.2.1) Ar88.2.2 hi89 (H88.at hi89 (hat (3 : Int32) (Or.inr (Or.inr (Or.inr (Or.inl rfl))))).2) (g := (mkF m 17 #[.val (.ref b), .val (.int p1), .val (.int (7 : Int32)), .val (.long (q &&& (((1 : Int64) <<< ((24 : Int32) &&& 0x3f).toInt64) - (1 : Int64)))), .second, .val (.int (3 : Int32))] [(.int (p1 + (3 : Int32))), (.ref b), (.long (q &&& (((1 : Int64) <<< ((24 : Int32) &&& 0x3f).toInt64) - (1 : Int64))))])) rfl rfl (hb hby d2_17) _ ?_
    show Steps p.tables e below (s₁.setTop (mkF m 18 #[.val (.ref b), .val (.int p1), .val (.int (7 : Int32)), .val (.long (q &&& (((1 : Int64) <<< ((24 : Int32) &&& 0x3f).toInt64) - (1 : Int64)))), .second, .val (.int (3 : Int32))] [(.int (own_by q (3 : Int32))), (.long (q &&& (((1 : Int64) <<< ((24 : Int32) &&& 0x3f).toInt64) - (1 : Int64))))])) _
    refine XS.sipush X0.here hx rfl (hb hby d2_18) ?_
    show Steps p.tables e below (s₁.setTop (mkF m 21 #[.val (.ref b), .val (.int p1), .val (.int (7 : Int32)), .val (.long (q &&& (((1 : Int64) <<< ((24 : Int32) &&& 0x3f).toInt64) - (1 : Int64)))), .second, .val (.int (3 : Int32))] [(.int (255 : Int32)), (.int (own_by q (3 : Int32))), (.long (q &&& (((1 : Int64) <<< ((24 : Int32) &&& 0x3f).toInt64) - (1 : Int64))))])) _
    refine XS.iand X0.here hx rfl (hb hby d2_21) rfl ?_
    show Steps p.tables e below (s₁.setTop (mkF m 22 #[.val (.ref b), .val (.int p1), .val (.int (7 : Int32)), .val (.long (q &&& (((1 : Int64) <<< ((24 : Int32) &&& 0x3f).toInt64) - (1 : Int64)))), .second, .val (.int (3 : Int32))] [(.int ((own_by q (3 : Int32)) &&& (255 : Int32))), (.long (q &&& (((1 : Int64) <<< ((24 : Int32) &&& 0x3f).toInt64) - (1 : Int64))))])) _
    refine XS.i2l X0.here hx rfl (hb hby d2_22) rfl ?_
    show Steps p.tables e below (s₁.setTop (mkF m 23 #[.val (.ref b), .val (.int p1), .val (.int (7 : Int32)), .val (.long (q &&& (((1 : Int64) <<< ((24 : Int32) &&& 0x3f).toInt64) - (1 : Int64)))), .second, .val (.int (3 : Int32))] [(.long ((own_by q (3 : Int32)) &&& (255 : Int32)).toInt64), (.long (q &&& (((1 : Int64) <<< ((24 : Int32) &&& 0x3f).toInt64) - (1 : Int64))))])) _
    refine XS.bipush X0.here hx rfl (hb hby d2_23) ?_
    show Steps p.tables e below (s₁.setTop (mkF m 25 #[.val (.ref b), .val (.int p1), .val (.int (7 : Int32)), .val (.long (q &&& (((1 : Int64) <<< ((24 : Int32) &&& 0x3f).toInt64) - (1 : Int64)))), .second, .val (.int (3 : Int32))] [(.int (8 : Int32)), (.long ((own_by q (3 : Int32)) &&& (255 : Int32)).toInt64), (.long (q &&& (((1 : Int64) <<< ((24 : Int32) &&& 0x3f).toInt64) - (1 : Int64))))])) _
    refine XS.iload X0.here hx rfl (hb hby d2_25) rfl ?_
    show Steps p.tables e below (s₁.setTop (mkF m 27 #[.val (.ref b), .val (.int p1), .val (.int (7 : Int32)), .val (.long (q &&& (((1 : Int64) <<< ((24 : Int32) &&& 0x3f).toInt64) - (1 : Int64)))), .second, .val (.int (3 : Int32))] [(.int (3 : Int32)), (.int (8 : Int32)), (.long ((own_by q (3 : Int32)) &&& (255 : Int32)).toInt64), (.long (q &&& (((1 : Int64) <<< ((24 : Int32) &&& 0x3f).toInt64) - (1 : Int64))))])) _
    refine XS.imul X0.here hx rfl (hb hby d2_27) rfl ?_
    show Steps p.tables e below (s₁.setTop (mkF m 28 #[.val (.ref b), .val (.int p1), .val (.int (7 : Int32)), .val (.long (q &&& (((1 : Int64) <<< ((24 : Int32) &&& 0x3f).toInt64) - (1 : Int64)))), .second, .val (.int (3 : Int32))] [(.int ((8 : Int32) * (3 : Int32))), (.long ((own_by q (3 : Int32)) &&& (255 : Int32)).toInt64), (.long (q &&& (((1 : Int64) <<< ((24 : Int32) &&& 0x3f).toInt64) - (1 : Int64))))])) _
    rw [show ((8 : Int32) * (3 : Int32)) = (24 : Int32) from (by decide : ((8 : Int32) * (3 : Int32)) = (24 : Int32))]
    show Steps p.tables e below (s₁.setTop (mkF m 28 #[.val (.ref b), .val (.int p1), .val (.int (7 : Int32)), .val (.long (q &&& (((1 : Int64) <<< ((24 : Int32) &&& 0x3f).toInt64) - (1 : Int64)))), .second, .val (.int (3 : Int32))] [(.int (24 : Int32)), (.long ((own_by q (3 : Int32)) &&& (255 : Int32)).toInt64), (.long (q &&& (((1 : Int64) <<< ((24 : Int32) &&& 0x3f).toInt64) - (1 : Int64))))])) _
    refine XS.lshl X0.here hx rfl (hb hby d2_28) rfl ?_
    show Steps p.tables e below (s₁.setTop (mkF m 29 #[.val (.ref b), .val (.int p1), .val (.int (7 : Int32)), .val (.long (q &&& (((1 : Int64) <<< ((24 : Int32) &&& 0x3f).toInt64) - (1 : Int64)))), .second, .val (.int (3 : Int32))] [(.long (((own_by q (3 : Int32)) &&& (255 : Int32)).toInt64 <<< ((24 : Int32) &&& 0x3f).toInt64)), (.long (q &&& (((1 : Int64) <<< ((24 : Int32) &&& 0x3f).toInt64) - (1 : Int64))))])) _
    refine XS.lor X0.here hx rfl (hb hby d2_29) rfl ?_
    show Steps p.tables e below (s₁.setTop (mkF m 30 #[.val (.ref b), .val (.int p1), .val (.int (7 : Int32)), .val (.long (q &&& (((1 : Int64) <<< ((24 : Int32) &&& 0x3f).toInt64) - (1 : Int64)))), .second, .val (.int (3 : Int32))] [(.long ((q &&& (((1 : Int64) <<< ((24 : Int32) &&& 0x3f).toInt64) - (1 : Int64))) ||| (((own_by q (3 : Int32)) &&& (255 : Int32)).toInt64 <<< ((24 : Int32) &&& 0x3f).toInt64)))])) _
    rw [show ((q &&& (((1 : Int64) <<< ((24 : Int32) &&& 0x3f).toInt64) - (1 : Int64))) ||| (((own_by q (3 : Int32)) &&& (255 : Int32)).toInt64 <<< ((24 : Int32) &&& 0x3f).toInt64)) = (q &&& (((1 : Int64) <<< ((32 : Int32) &&& 0x3f).toInt64) - (1 : Int64))) from own_step_3 q]
    show Steps p.tables e below (s₁.setTop (mkF m 30 #[.val (.ref b), .val (.int p1), .val (.int (7 : Int32)), .val (.long (q &&& (((1 : Int64) <<< ((24 : Int32) &&& 0x3f).toInt64) - (1 : Int64)))), .second, .val (.int (3 : Int32))] [(.long (q &&& (((1 : Int64) <<< ((32 : Int32) &&& 0x3f).toInt64) - (1 : Int64))))])) _
    refine XS.lstoreN X0.here hx rfl (hb hby d2_30) rfl (l' := #[.val (.ref b), .val (.int p1), .val (.int (7 : Int32)), .val (.long (q &&& (((1 : Int64) <<< ((32 : Int32) &&& 0x3f).toInt64) - (1 : Int64)))), .second, .val (.int (3 : Int32))]) rfl ?_
    show Steps p.tables e below (s₁.setTop (mkF m 31 #[.val (.ref b), .val (.int p1), .val (.int (7 : Int32)), .val (.long (q &&& (((1 : Int64) <<< ((32 : Int32) &&& 0x3f).toInt64) - (1 : Int64)))), .second, .val (.int (3 : Int32))] [])) _
    refine XS.iinc X0.here hx rfl (hb hby d2_31) rfl (l' := #[.val (.ref b), .val (.int p1), .val (.int (7 : Int32)), .val (.long (q &&& (((1 : Int64) <<< ((32 : Int32) &&& 0x3f).toInt64) - (1 : Int64)))), .second, .val (.int ((3 : Int32) + (1 : Int32)))]) rfl ?_
    show Steps p.tables e below (s₁.setTop (mkF m 34 #[.val (.ref b), .val (.int p1), .val (.int (7 : Int32)), .val (.long (q &&& (((1 : Int64) <<< ((32 : Int32) &&& 0x3f).toInt64) - (1 : Int64)))), .second, .val (.int ((3 : Int32) + (1 : Int32)))] [])) _
    rw [show ((3 : Int32) + (1 : Int32)) = (4 : Int32) from (by decide : ((3 : Int32) + (1 : Int32)) = (4 : Int32))]
    show Steps p.tables e below (s₁.setTop (mkF m 34 #[.val (.ref b), .val (.int p1), .val (.int (7 : Int32)), .val (.long (q &&& (((1 : Int64) <<< ((32 : Int32) &&& 0x3f).toInt64) - (1 : Int64)))), .second, .val (.int (4 : Int32))] [])) _
    refine XS.goto X0.here hx rfl (pc0 := 34) (pc' := 5) rfl (hb hby d2_34) (by decide) (by decide) ?_
    show Steps p.tables e below (s₁.setTop (mkF m 5 #[.val (.ref b), .val (.int p1), .val (.int (7 : Int32)), .val (.long (q &&& (((1 : Int64) <<< ((32 : Int32) &&& 0x3f).toInt64) - (1 : Int64)))), .second, .val (.int (4 : Int32))] [])) _
    refine XS.iload X0.here hx rfl (hb hby d2_5) rfl ?_
    show Steps p.tables e below (s₁.setTop (mkF m 7 #[.val (.ref b), .val (.int p1), .val (.int (7 : Int32)), .val (.long (q &&& (((1 : Int64) <<< ((32 : Int32) &&& 0x3f).toInt64) - (1 : Int64)))), .second, .val (.int (4 : Int32))] [(.int (4 : Int32))])) _
    refine XS.iloadN X0.here hx rfl (hb hby d2_7) rfl ?_
    show Steps p.tables e below (s₁.setTop (mkF m 8 #[.val (.ref b), .val (.int p1), .val (.int (7 : Int32)), .val (.long (q &&& (((1 : Int64) <<< ((32 : Int32) &&& 0x3f).toInt64) - (1 : Int64)))), .second, .val (.int (4 : Int32))] [(.int (7 : Int32)), (.int (4 : Int32))])) _
    refine XS.icmpNo X0.here hx rfl (hb hby d2_8) rfl (by decide) ?_
    show Steps p.tables e below (s₁.setTop (mkF m 11 #[.val (.ref b), .val (.int p1), .val (.int (7 : Int32)), .val (.long (q &&& (((1 : Int64) <<< ((32 : Int32) &&& 0x3f).toInt64) - (1 : Int64)))), .second, .val (.int (4 : Int32))] [])) _
    refine XS.lloadN X0.here hx rfl (hb hby d2_11) rfl ?_
    show Steps p.tables e below (s₁.setTop (mkF m 12 #[.val (.ref b), .val (.int p1), .val (.int (7 : Int32)), .val (.long (q &&& (((1 : Int64) <<< ((32 : Int32) &&& 0x3f).toInt64) - (1 : Int64)))), .second, .val (.int (4 : Int32))] [(.long (q &&& (((1 : Int64) <<< ((32 : Int32) &&& 0x3f).toInt64) - (1 : Int64))))])) _
    refine XS.aloadN X0.here hx rfl (hb hby d2_12) rfl rfl ?_
    show Steps p.tables e below (s₁.setTop (mkF m 13 #[.val (.ref b), .val (.int p1), .val (.int (7 : Int32)), .val (.long (q &&& (((1 : Int64) <<< ((32 : Int32) &&& 0x3f).toInt64) - (1 : Int64)))), .second, .val (.int (4 : Int32))] [(.ref b), (.long (q &&& (((1 : Int64) <<< ((32 : Int32) &&& 0x3f).toInt64) - (1 : Int64))))])) _
    refine XS.iloadN X0.here hx rfl (hb hby d2_13) rfl ?_
    show Steps p.tables e below (s₁.setTop (mkF m 14 #[.val (.ref b), .val (.int p1), .val (.int (7 : Int32)), .val (.long (q &&& (((1 : Int64) <<< ((32 : Int32) &&& 0x3f).toInt64) - (1 : Int64)))), .second, .val (.int (4 : Int32))] [(.int p1), (.ref b), (.long (q &&& (((1 : Int64) <<< ((32 : Int32) &&& 0x3f).toInt64) - (1 : Int64))))])) _
    refine XS.iload X0.here hx rfl (hb hby d2_14) rfl ?_
    show Steps p.tables e below (s₁.setTop (mkF m 16 #[.val (.ref b), .val (.int p1), .val (.int (7 : Int32)), .val (.long (q &&& (((1 : Int64) <<< ((32 : Int32) &&& 0x3f).toInt64) - (1 : Int64)))), .second, .val (.int (4 : Int32))] [(.int (4 : Int32)), (.int p1), (.ref b), (.long (q &&& (((1 : Int64) <<< ((32 : Int32) &&& 0x3f).toInt64) - (1 : Int64))))])) _
    refine XS.iadd X0.here hx rfl (hb hby d2_16) rfl ?_
    show Steps p.tables e below (s₁.setTop (mkF m 17 #[.val (.ref b), .val (.int p1), .val (.int (7 : Int32)), .val (.long (q &&& (((1 : Int64) <<< ((32 : Int32) &&& 0x3f).toInt64) - (1 : Int64)))), .second, .val (.int (4 : Int32))] [(.int (p1 + (4 : Int32))), (.ref b), (.long (q &&& (((1 : Int64) <<< ((32 : Int32) &&& 0x3f).toInt64) - (1 : Int64))))])) _
    exact kq)
  obtain ⟨cl91, Ar91, q91, S91, M91, H91, Gf91⟩ := id A
  have hi92 : ¬ ((p1 + (4 : Int32)) < 0 ∨ cl91.slots.size ≤ ((p1 + (4 : Int32))).toNatClampNeg) := (inb_of S91 (hat (4 : Int32) (Or.inr (Or.inr (Or.inr (Or.inr (Or.inl rfl)))))).1)
  have G93 : Go p e below A0 (s₁.setTop (mkF m 17 #[.val (.ref b), .val (.int p1), .val (.int (7 : Int32)), .val (.long (q &&& (((1 : Int64) <<< ((40 : Int32) &&& 0x3f).toInt64) - (1 : Int64)))), .second, .val (.int (5 : Int32))] [(.int (p1 + (5 : Int32))), (.ref b), (.long (q &&& (((1 : Int64) <<< ((40 : Int32) &&& 0x3f).toInt64) - (1 : Int64))))])) := fun tq kq => G90 tq (by
    refine X0.baloadBytes hx (j := (p1 + (4 : Int32))) (v := (.int (own_by q (4 : Int32)))) (by rw [e0]; exact Ar91.1) (State.isArrayOf_alike hZ.alike Ar91.2.1) Ar91.2.2 hi92 (H91.at hi92 (hat (4 : Int32) (Or.inr (Or.inr (Or.inr (Or.inr (Or.inl rfl)))))).2) (g := (mkF m 17 #[.val (.ref b), .val (.int p1), .val (.int (7 : Int32)), .val (.long (q &&& (((1 : Int64) <<< ((32 : Int32) &&& 0x3f).toInt64) - (1 : Int64)))), .second, .val (.int (4 : Int32))] [(.int (p1 + (4 : Int32))), (.ref b), (.long (q &&& (((1 : Int64) <<< ((32 : Int32) &&& 0x3f).toInt64) - (1 : Int64))))])) rfl rfl (hb hby d2_17) _ ?_
    show Steps p.tables e below (s₁.setTop (mkF m 18 #[.val (.ref b), .val (.int p1), .val (.int (7 : Int32)), .val (.long (q &&& (((1 : Int64) <<< ((32 : Int32) &&& 0x3f).toInt64) - (1 : Int64)))), .second, .val (.int (4 : Int32))] [(.int (own_by q (4 : Int32))), (.long (q &&& (((1 : Int64) <<< ((32 : Int32) &&& 0x3f).toInt64) - (1 : Int64))))])) _
    refine XS.sipush X0.here hx rfl (hb hby d2_18) ?_
    show Steps p.tables e below (s₁.setTop (mkF m 21 #[.val (.ref b), .val (.int p1), .val (.int (7 : Int32)), .val (.long (q &&& (((1 : Int64) <<< ((32 : Int32) &&& 0x3f).toInt64) - (1 : Int64)))), .second, .val (.int (4 : Int32))] [(.int (255 : Int32)), (.int (own_by q (4 : Int32))), (.long (q &&& (((1 : Int64) <<< ((32 : Int32) &&& 0x3f).toInt64) - (1 : Int64))))])) _
    refine XS.iand X0.here hx rfl (hb hby d2_21) rfl ?_
    show Steps p.tables e below (s₁.setTop (mkF m 22 #[.val (.ref b), .val (.int p1), .val (.int (7 : Int32)), .val (.long (q &&& (((1 : Int64) <<< ((32 : Int32) &&& 0x3f).toInt64) - (1 : Int64)))), .second, .val (.int (4 : Int32))] [(.int ((own_by q (4 : Int32)) &&& (255 : Int32))), (.long (q &&& (((1 : Int64) <<< ((32 : Int32) &&& 0x3f).toInt64) - (1 : Int64))))])) _
    refine XS.i2l X0.here hx rfl (hb hby d2_22) rfl ?_
    show Steps p.tables e below (s₁.setTop (mkF m 23 #[.val (.ref b), .val (.int p1), .val (.int (7 : Int32)), .val (.long (q &&& (((1 : Int64) <<< ((32 : Int32) &&& 0x3f).toInt64) - (1 : Int64)))), .second, .val (.int (4 : Int32))] [(.long ((own_by q (4 : Int32)) &&& (255 : Int32)).toInt64), (.long (q &&& (((1 : Int64) <<< ((32 : Int32) &&& 0x3f).toInt64) - (1 : Int64))))])) _
    refine XS.bipush X0.here hx rfl (hb hby d2_23) ?_
    show Steps p.tables e below (s₁.setTop (mkF m 25 #[.val (.ref b), .val (.int p1), .val (.int (7 : Int32)), .val (.long (q &&& (((1 : Int64) <<< ((32 : Int32) &&& 0x3f).toInt64) - (1 : Int64)))), .second, .val (.int (4 : Int32))] [(.int (8 : Int32)), (.long ((own_by q (4 : Int32)) &&& (255 : Int32)).toInt64), (.long (q &&& (((1 : Int64) <<< ((32 : Int32) &&& 0x3f).toInt64) - (1 : Int64))))])) _
    refine XS.iload X0.here hx rfl (hb hby d2_25) rfl ?_
    show Steps p.tables e below (s₁.setTop (mkF m 27 #[.val (.ref b), .val (.int p1), .val (.int (7 : Int32)), .val (.long (q &&& (((1 : Int64) <<< ((32 : Int32) &&& 0x3f).toInt64) - (1 : Int64)))), .second, .val (.int (4 : Int32))] [(.int (4 : Int32)), (.int (8 : Int32)), (.long ((own_by q (4 : Int32)) &&& (255 : Int32)).toInt64), (.long (q &&& (((1 : Int64) <<< ((32 : Int32) &&& 0x3f).toInt64) - (1 : Int64))))])) _
    refine XS.imul X0.here hx rfl (hb hby d2_27) rfl ?_
    show Steps p.tables e below (s₁.setTop (mkF m 28 #[.val (.ref b), .val (.int p1), .val (.int (7 : Int32)), .val (.long (q &&& (((1 : Int64) <<< ((32 : Int32) &&& 0x3f).toInt64) - (1 : Int64)))), .second, .val (.int (4 : Int32))] [(.int ((8 : Int32) * (4 : Int32))), (.long ((own_by q (4 : Int32)) &&& (255 : Int32)).toInt64), (.long (q &&& (((1 : Int64) <<< ((32 : Int32) &&& 0x3f).toInt64) - (1 : Int64))))])) _
    rw [show ((8 : Int32) * (4 : Int32)) = (32 : Int32) from (by decide : ((8 : Int32) * (4 : Int32)) = (32 : Int32))]
    show Steps p.tables e below (s₁.setTop (mkF m 28 #[.val (.ref b), .val (.int p1), .val (.int (7 : Int32)), .val (.long (q &&& (((1 : Int64) <<< ((32 : Int32) &&& 0x3f).toInt64) - (1 : Int64)))), .second, .val (.int (4 : Int32))] [(.int (32 : Int32)), (.long ((own_by q (4 : Int32)) &&& (255 : Int32)).toInt64), (.long (q &&& (((1 : Int64) <<< ((32 : Int32) &&& 0x3f).toInt64) - (1 : Int64))))])) _
    refine XS.lshl X0.here hx rfl (hb hby d2_28) rfl ?_
    show Steps p.tables e below (s₁.setTop (mkF m 29 #[.val (.ref b), .val (.int p1), .val (.int (7 : Int32)), .val (.long (q &&& (((1 : Int64) <<< ((32 : Int32) &&& 0x3f).toInt64) - (1 : Int64)))), .second, .val (.int (4 : Int32))] [(.long (((own_by q (4 : Int32)) &&& (255 : Int32)).toInt64 <<< ((32 : Int32) &&& 0x3f).toInt64)), (.long (q &&& (((1 : Int64) <<< ((32 : Int32) &&& 0x3f).toInt64) - (1 : Int64))))])) _
    refine XS.lor X0.here hx rfl (hb hby d2_29) rfl ?_
    show Steps p.tables e below (s₁.setTop (mkF m 30 #[.val (.ref b), .val (.int p1), .val (.int (7 : Int32)), .val (.long (q &&& (((1 : Int64) <<< ((32 : Int32) &&& 0x3f).toInt64) - (1 : Int64)))), .second, .val (.int (4 : Int32))] [(.long ((q &&& (((1 : Int64) <<< ((32 : Int32) &&& 0x3f).toInt64) - (1 : Int64))) ||| (((own_by q (4 : Int32)) &&& (255 : Int32)).toInt64 <<< ((32 : Int32) &&& 0x3f).toInt64)))])) _
    rw [show ((q &&& (((1 : Int64) <<< ((32 : Int32) &&& 0x3f).toInt64) - (1 : Int64))) ||| (((own_by q (4 : Int32)) &&& (255 : Int32)).toInt64 <<< ((32 : Int32) &&& 0x3f).toInt64)) = (q &&& (((1 : Int64) <<< ((40 : Int32) &&& 0x3f).toInt64) - (1 : Int64))) from own_step_4 q]
    show Steps p.tables e below (s₁.setTop (mkF m 30 #[.val (.ref b), .val (.int p1), .val (.int (7 : Int32)), .val (.long (q &&& (((1 : Int64) <<< ((32 : Int32) &&& 0x3f).toInt64) - (1 : Int64)))), .second, .val (.int (4 : Int32))] [(.long (q &&& (((1 : Int64) <<< ((40 : Int32) &&& 0x3f).toInt64) - (1 : Int64))))])) _
    refine XS.lstoreN X0.here hx rfl (hb hby d2_30) rfl (l' := #[.val (.ref b), .val (.int p1), .val (.int (7 : Int32)), .val (.long (q &&& (((1 : Int64) <<< ((40 : Int32) &&& 0x3f).toInt64) - (1 : Int64)))), .second, .val (.int (4 : Int32))]) rfl ?_
    show Steps p.tables e below (s₁.setTop (mkF m 31 #[.val (.ref b), .val (.int p1), .val (.int (7 : Int32)), .val (.long (q &&& (((1 : Int64) <<< ((40 : Int32) &&& 0x3f).toInt64) - (1 : Int64)))), .second, .val (.int (4 : Int32))] [])) _
    refine XS.iinc X0.here hx rfl (hb hby d2_31) rfl (l' := #[.val (.ref b), .val (.int p1), .val (.int (7 : Int32)), .val (.long (q &&& (((1 : Int64) <<< ((40 : Int32) &&& 0x3f).toInt64) - (1 : Int64)))), .second, .val (.int ((4 : Int32) + (1 : Int32)))]) rfl ?_
    show Steps p.tables e below (s₁.setTop (mkF m 34 #[.val (.ref b), .val (.int p1), .val (.int (7 : Int32)), .val (.long (q &&& (((1 : Int64) <<< ((40 : Int32) &&& 0x3f).toInt64) - (1 : Int64)))), .second, .val (.int ((4 : Int32) + (1 : Int32)))] [])) _
    rw [show ((4 : Int32) + (1 : Int32)) = (5 : Int32) from (by decide : ((4 : Int32) + (1 : Int32)) = (5 : Int32))]
    show Steps p.tables e below (s₁.setTop (mkF m 34 #[.val (.ref b), .val (.int p1), .val (.int (7 : Int32)), .val (.long (q &&& (((1 : Int64) <<< ((40 : Int32) &&& 0x3f).toInt64) - (1 : Int64)))), .second, .val (.int (5 : Int32))] [])) _
    refine XS.goto X0.here hx rfl (pc0 := 34) (pc' := 5) rfl (hb hby d2_34) (by decide) (by decide) ?_
    show Steps p.tables e below (s₁.setTop (mkF m 5 #[.val (.ref b), .val (.int p1), .val (.int (7 : Int32)), .val (.long (q &&& (((1 : Int64) <<< ((40 : Int32) &&& 0x3f).toInt64) - (1 : Int64)))), .second, .val (.int (5 : Int32))] [])) _
    refine XS.iload X0.here hx rfl (hb hby d2_5) rfl ?_
    show Steps p.tables e below (s₁.setTop (mkF m 7 #[.val (.ref b), .val (.int p1), .val (.int (7 : Int32)), .val (.long (q &&& (((1 : Int64) <<< ((40 : Int32) &&& 0x3f).toInt64) - (1 : Int64)))), .second, .val (.int (5 : Int32))] [(.int (5 : Int32))])) _
    refine XS.iloadN X0.here hx rfl (hb hby d2_7) rfl ?_
    show Steps p.tables e below (s₁.setTop (mkF m 8 #[.val (.ref b), .val (.int p1), .val (.int (7 : Int32)), .val (.long (q &&& (((1 : Int64) <<< ((40 : Int32) &&& 0x3f).toInt64) - (1 : Int64)))), .second, .val (.int (5 : Int32))] [(.int (7 : Int32)), (.int (5 : Int32))])) _
    refine XS.icmpNo X0.here hx rfl (hb hby d2_8) rfl (by decide) ?_
    show Steps p.tables e below (s₁.setTop (mkF m 11 #[.val (.ref b), .val (.int p1), .val (.int (7 : Int32)), .val (.long (q &&& (((1 : Int64) <<< ((40 : Int32) &&& 0x3f).toInt64) - (1 : Int64)))), .second, .val (.int (5 : Int32))] [])) _
    refine XS.lloadN X0.here hx rfl (hb hby d2_11) rfl ?_
    show Steps p.tables e below (s₁.setTop (mkF m 12 #[.val (.ref b), .val (.int p1), .val (.int (7 : Int32)), .val (.long (q &&& (((1 : Int64) <<< ((40 : Int32) &&& 0x3f).toInt64) - (1 : Int64)))), .second, .val (.int (5 : Int32))] [(.long (q &&& (((1 : Int64) <<< ((40 : Int32) &&& 0x3f).toInt64) - (1 : Int64))))])) _
    refine XS.aloadN X0.here hx rfl (hb hby d2_12) rfl rfl ?_
    show Steps p.tables e below (s₁.setTop (mkF m 13 #[.val (.ref b), .val (.int p1), .val (.int (7 : Int32)), .val (.long (q &&& (((1 : Int64) <<< ((40 : Int32) &&& 0x3f).toInt64) - (1 : Int64)))), .second, .val (.int (5 : Int32))] [(.ref b), (.long (q &&& (((1 : Int64) <<< ((40 : Int32) &&& 0x3f).toInt64) - (1 : Int64))))])) _
    refine XS.iloadN X0.here hx rfl (hb hby d2_13) rfl ?_
    show Steps p.tables e below (s₁.setTop (mkF m 14 #[.val (.ref b), .val (.int p1), .val (.int (7 : Int32)), .val (.long (q &&& (((1 : Int64) <<< ((40 : Int32) &&& 0x3f).toInt64) - (1 : Int64)))), .second, .val (.int (5 : Int32))] [(.int p1), (.ref b), (.long (q &&& (((1 : Int64) <<< ((40 : Int32) &&& 0x3f).toInt64) - (1 : Int64))))])) _
    refine XS.iload X0.here hx rfl (hb hby d2_14) rfl ?_
    show Steps p.tables e below (s₁.setTop (mkF m 16 #[.val (.ref b), .val (.int p1), .val (.int (7 : Int32)), .val (.long (q &&& (((1 : Int64) <<< ((40 : Int32) &&& 0x3f).toInt64) - (1 : Int64)))), .second, .val (.int (5 : Int32))] [(.int (5 : Int32)), (.int p1), (.ref b), (.long (q &&& (((1 : Int64) <<< ((40 : Int32) &&& 0x3f).toInt64) - (1 : Int64))))])) _
    refine XS.iadd X0.here hx rfl (hb hby d2_16) rfl ?_
    show Steps p.tables e below (s₁.setTop (mkF m 17 #[.val (.ref b), .val (.int p1), .val (.int (7 : Int32)), .val (.long (q &&& (((1 : Int64) <<< ((40 : Int32) &&& 0x3f).toInt64) - (1 : Int64)))), .second, .val (.int (5 : Int32))] [(.int (p1 + (5 : Int32))), (.ref b), (.long (q &&& (((1 : Int64) <<< ((40 : Int32) &&& 0x3f).toInt64) - (1 : Int64))))])) _
    exact kq)
  obtain ⟨cl94, Ar94, q94, S94, M94, H94, Gf94⟩ := id A
  have hi95 : ¬ ((p1 + (5 : Int32)) < 0 ∨ cl94.slots.size ≤ ((p1 + (5 : Int32))).toNatClampNeg) := (inb_of S94 (hat (5 : Int32) (Or.inr (Or.inr (Or.inr (Or.inr (Or.inr (Or.inl rfl))))))).1)
  have G96 : Go p e below A0 (s₁.setTop (mkF m 17 #[.val (.ref b), .val (.int p1), .val (.int (7 : Int32)), .val (.long (q &&& (((1 : Int64) <<< ((48 : Int32) &&& 0x3f).toInt64) - (1 : Int64)))), .second, .val (.int (6 : Int32))] [(.int (p1 + (6 : Int32))), (.ref b), (.long (q &&& (((1 : Int64) <<< ((48 : Int32) &&& 0x3f).toInt64) - (1 : Int64))))])) := fun tq kq => G93 tq (by
    refine X0.baloadBytes hx (j := (p1 + (5 : Int32))) (v := (.int (own_by q (5 : Int32)))) (by rw [e0]; exact Ar94.1) (State.isArrayOf_alike hZ.alike Ar94.2.1) Ar94.2.2 hi95 (H94.at hi95 (hat (5 : Int32) (Or.inr (Or.inr (Or.inr (Or.inr (Or.inr (Or.inl rfl))))))).2) (g := (mkF m 17 #[.val (.ref b), .val (.int p1), .val (.int (7 : Int32)), .val (.long (q &&& (((1 : Int64) <<< ((40 : Int32) &&& 0x3f).toInt64) - (1 : Int64)))), .second, .val (.int (5 : Int32))] [(.int (p1 + (5 : Int32))), (.ref b), (.long (q &&& (((1 : Int64) <<< ((40 : Int32) &&& 0x3f).toInt64) - (1 : Int64))))])) rfl rfl (hb hby d2_17) _ ?_
    show Steps p.tables e below (s₁.setTop (mkF m 18 #[.val (.ref b), .val (.int p1), .val (.int (7 : Int32)), .val (.long (q &&& (((1 : Int64) <<< ((40 : Int32) &&& 0x3f).toInt64) - (1 : Int64)))), .second, .val (.int (5 : Int32))] [(.int (own_by q (5 : Int32))), (.long (q &&& (((1 : Int64) <<< ((40 : Int32) &&& 0x3f).toInt64) - (1 : Int64))))])) _
    refine XS.sipush X0.here hx rfl (hb hby d2_18) ?_
    show Steps p.tables e below (s₁.setTop (mkF m 21 #[.val (.ref b), .val (.int p1), .val (.int (7 : Int32)), .val (.long (q &&& (((1 : Int64) <<< ((40 : Int32) &&& 0x3f).toInt64) - (1 : Int64)))), .second, .val (.int (5 : Int32))] [(.int (255 : Int32)), (.int (own_by q (5 : Int32))), (.long (q &&& (((1 : Int64) <<< ((40 : Int32) &&& 0x3f).toInt64) - (1 : Int64))))])) _
    refine XS.iand X0.here hx rfl (hb hby d2_21) rfl ?_
    show Steps p.tables e below (s₁.setTop (mkF m 22 #[.val (.ref b), .val (.int p1), .val (.int (7 : Int32)), .val (.long (q &&& (((1 : Int64) <<< ((40 : Int32) &&& 0x3f).toInt64) - (1 : Int64)))), .second, .val (.int (5 : Int32))] [(.int ((own_by q (5 : Int32)) &&& (255 : Int32))), (.long (q &&& (((1 : Int64) <<< ((40 : Int32) &&& 0x3f).toInt64) - (1 : Int64))))])) _
    refine XS.i2l X0.here hx rfl (hb hby d2_22) rfl ?_
    show Steps p.tables e below (s₁.setTop (mkF m 23 #[.val (.ref b), .val (.int p1), .val (.int (7 : Int32)), .val (.long (q &&& (((1 : Int64) <<< ((40 : Int32) &&& 0x3f).toInt64) - (1 : Int64)))), .second, .val (.int (5 : Int32))] [(.long ((own_by q (5 : Int32)) &&& (255 : Int32)).toInt64), (.long (q &&& (((1 : Int64) <<< ((40 : Int32) &&& 0x3f).toInt64) - (1 : Int64))))])) _
    refine XS.bipush X0.here hx rfl (hb hby d2_23) ?_
    show Steps p.tables e below (s₁.setTop (mkF m 25 #[.val (.ref b), .val (.int p1), .val (.int (7 : Int32)), .val (.long (q &&& (((1 : Int64) <<< ((40 : Int32) &&& 0x3f).toInt64) - (1 : Int64)))), .second, .val (.int (5 : Int32))] [(.int (8 : Int32)), (.long ((own_by q (5 : Int32)) &&& (255 : Int32)).toInt64), (.long (q &&& (((1 : Int64) <<< ((40 : Int32) &&& 0x3f).toInt64) - (1 : Int64))))])) _
    refine XS.iload X0.here hx rfl (hb hby d2_25) rfl ?_
    show Steps p.tables e below (s₁.setTop (mkF m 27 #[.val (.ref b), .val (.int p1), .val (.int (7 : Int32)), .val (.long (q &&& (((1 : Int64) <<< ((40 : Int32) &&& 0x3f).toInt64) - (1 : Int64)))), .second, .val (.int (5 : Int32))] [(.int (5 : Int32)), (.int (8 : Int32)), (.long ((own_by q (5 : Int32)) &&& (255 : Int32)).toInt64), (.long (q &&& (((1 : Int64) <<< ((40 : Int32) &&& 0x3f).toInt64) - (1 : Int64))))])) _
    refine XS.imul X0.here hx rfl (hb hby d2_27) rfl ?_
    show Steps p.tables e below (s₁.setTop (mkF m 28 #[.val (.ref b), .val (.int p1), .val (.int (7 : Int32)), .val (.long (q &&& (((1 : Int64) <<< ((40 : Int32) &&& 0x3f).toInt64) - (1 : Int64)))), .second, .val (.int (5 : Int32))] [(.int ((8 : Int32) * (5 : Int32))), (.long ((own_by q (5 : Int32)) &&& (255 : Int32)).toInt64), (.long (q &&& (((1 : Int64) <<< ((40 : Int32) &&& 0x3f).toInt64) - (1 : Int64))))])) _
    rw [show ((8 : Int32) * (5 : Int32)) = (40 : Int32) from (by decide : ((8 : Int32) * (5 : Int32)) = (40 : Int32))]
    show Steps p.tables e below (s₁.setTop (mkF m 28 #[.val (.ref b), .val (.int p1), .val (.int (7 : Int32)), .val (.long (q &&& (((1 : Int64) <<< ((40 : Int32) &&& 0x3f).toInt64) - (1 : Int64)))), .second, .val (.int (5 : Int32))] [(.int (40 : Int32)), (.long ((own_by q (5 : Int32)) &&& (255 : Int32)).toInt64), (.long (q &&& (((1 : Int64) <<< ((40 : Int32) &&& 0x3f).toInt64) - (1 : Int64))))])) _
    refine XS.lshl X0.here hx rfl (hb hby d2_28) rfl ?_
    show Steps p.tables e below (s₁.setTop (mkF m 29 #[.val (.ref b), .val (.int p1), .val (.int (7 : Int32)), .val (.long (q &&& (((1 : Int64) <<< ((40 : Int32) &&& 0x3f).toInt64) - (1 : Int64)))), .second, .val (.int (5 : Int32))] [(.long (((own_by q (5 : Int32)) &&& (255 : Int32)).toInt64 <<< ((40 : Int32) &&& 0x3f).toInt64)), (.long (q &&& (((1 : Int64) <<< ((40 : Int32) &&& 0x3f).toInt64) - (1 : Int64))))])) _
    refine XS.lor X0.here hx rfl (hb hby d2_29) rfl ?_
    show Steps p.tables e below (s₁.setTop (mkF m 30 #[.val (.ref b), .val (.int p1), .val (.int (7 : Int32)), .val (.long (q &&& (((1 : Int64) <<< ((40 : Int32) &&& 0x3f).toInt64) - (1 : Int64)))), .second, .val (.int (5 : Int32))] [(.long ((q &&& (((1 : Int64) <<< ((40 : Int32) &&& 0x3f).toInt64) - (1 : Int64))) ||| (((own_by q (5 : Int32)) &&& (255 : Int32)).toInt64 <<< ((40 : Int32) &&& 0x3f).toInt64)))])) _
    rw [show ((q &&& (((1 : Int64) <<< ((40 : Int32) &&& 0x3f).toInt64) - (1 : Int64))) ||| (((own_by q (5 : Int32)) &&& (255 : Int32)).toInt64 <<< ((40 : Int32) &&& 0x3f).toInt64)) = (q &&& (((1 : Int64) <<< ((48 : Int32) &&& 0x3f).toInt64) - (1 : Int64))) from own_step_5 q]
    show Steps p.tables e below (s₁.setTop (mkF m 30 #[.val (.ref b), .val (.int p1), .val (.int (7 : Int32)), .val (.long (q &&& (((1 : Int64) <<< ((40 : Int32) &&& 0x3f).toInt64) - (1 : Int64)))), .second, .val (.int (5 : Int32))] [(.long (q &&& (((1 : Int64) <<< ((48 : Int32) &&& 0x3f).toInt64) - (1 : Int64))))])) _
    refine XS.lstoreN X0.here hx rfl (hb hby d2_30) rfl (l' := #[.val (.ref b), .val (.int p1), .val (.int (7 : Int32)), .val (.long (q &&& (((1 : Int64) <<< ((48 : Int32) &&& 0x3f).toInt64) - (1 : Int64)))), .second, .val (.int (5 : Int32))]) rfl ?_
    show Steps p.tables e below (s₁.setTop (mkF m 31 #[.val (.ref b), .val (.int p1), .val (.int (7 : Int32)), .val (.long (q &&& (((1 : Int64) <<< ((48 : Int32) &&& 0x3f).toInt64) - (1 : Int64)))), .second, .val (.int (5 : Int32))] [])) _
    refine XS.iinc X0.here hx rfl (hb hby d2_31) rfl (l' := #[.val (.ref b), .val (.int p1), .val (.int (7 : Int32)), .val (.long (q &&& (((1 : Int64) <<< ((48 : Int32) &&& 0x3f).toInt64) - (1 : Int64)))), .second, .val (.int ((5 : Int32) + (1 : Int32)))]) rfl ?_
    show Steps p.tables e below (s₁.setTop (mkF m 34 #[.val (.ref b), .val (.int p1), .val (.int (7 : Int32)), .val (.long (q &&& (((1 : Int64) <<< ((48 : Int32) &&& 0x3f).toInt64) - (1 : Int64)))), .second, .val (.int ((5 : Int32) + (1 : Int32)))] [])) _
    rw [show ((5 : Int32) + (1 : Int32)) = (6 : Int32) from (by decide : ((5 : Int32) + (1 : Int32)) = (6 : Int32))]
    show Steps p.tables e below (s₁.setTop (mkF m 34 #[.val (.ref b), .val (.int p1), .val (.int (7 : Int32)), .val (.long (q &&& (((1 : Int64) <<< ((48 : Int32) &&& 0x3f).toInt64) - (1 : Int64)))), .second, .val (.int (6 : Int32))] [])) _
    refine XS.goto X0.here hx rfl (pc0 := 34) (pc' := 5) rfl (hb hby d2_34) (by decide) (by decide) ?_
    show Steps p.tables e below (s₁.setTop (mkF m 5 #[.val (.ref b), .val (.int p1), .val (.int (7 : Int32)), .val (.long (q &&& (((1 : Int64) <<< ((48 : Int32) &&& 0x3f).toInt64) - (1 : Int64)))), .second, .val (.int (6 : Int32))] [])) _
    refine XS.iload X0.here hx rfl (hb hby d2_5) rfl ?_
    show Steps p.tables e below (s₁.setTop (mkF m 7 #[.val (.ref b), .val (.int p1), .val (.int (7 : Int32)), .val (.long (q &&& (((1 : Int64) <<< ((48 : Int32) &&& 0x3f).toInt64) - (1 : Int64)))), .second, .val (.int (6 : Int32))] [(.int (6 : Int32))])) _
    refine XS.iloadN X0.here hx rfl (hb hby d2_7) rfl ?_
    show Steps p.tables e below (s₁.setTop (mkF m 8 #[.val (.ref b), .val (.int p1), .val (.int (7 : Int32)), .val (.long (q &&& (((1 : Int64) <<< ((48 : Int32) &&& 0x3f).toInt64) - (1 : Int64)))), .second, .val (.int (6 : Int32))] [(.int (7 : Int32)), (.int (6 : Int32))])) _
    refine XS.icmpNo X0.here hx rfl (hb hby d2_8) rfl (by decide) ?_
    show Steps p.tables e below (s₁.setTop (mkF m 11 #[.val (.ref b), .val (.int p1), .val (.int (7 : Int32)), .val (.long (q &&& (((1 : Int64) <<< ((48 : Int32) &&& 0x3f).toInt64) - (1 : Int64)))), .second, .val (.int (6 : Int32))] [])) _
    refine XS.lloadN X0.here hx rfl (hb hby d2_11) rfl ?_
    show Steps p.tables e below (s₁.setTop (mkF m 12 #[.val (.ref b), .val (.int p1), .val (.int (7 : Int32)), .val (.long (q &&& (((1 : Int64) <<< ((48 : Int32) &&& 0x3f).toInt64) - (1 : Int64)))), .second, .val (.int (6 : Int32))] [(.long (q &&& (((1 : Int64) <<< ((48 : Int32) &&& 0x3f).toInt64) - (1 : Int64))))])) _
    refine XS.aloadN X0.here hx rfl (hb hby d2_12) rfl rfl ?_
    show Steps p.tables e below (s₁.setTop (mkF m 13 #[.val (.ref b), .val (.int p1), .val (.int (7 : Int32)), .val (.long (q &&& (((1 : Int64) <<< ((48 : Int32) &&& 0x3f).toInt64) - (1 : Int64)))), .second, .val (.int (6 : Int32))] [(.ref b), (.long (q &&& (((1 : Int64) <<< ((48 : Int32) &&& 0x3f).toInt64) - (1 : Int64))))])) _
    refine XS.iloadN X0.here hx rfl (hb hby d2_13) rfl ?_
    show Steps p.tables e below (s₁.setTop (mkF m 14 #[.val (.ref b), .val (.int p1), .val (.int (7 : Int32)), .val (.long (q &&& (((1 : Int64) <<< ((48 : Int32) &&& 0x3f).toInt64) - (1 : Int64)))), .second, .val (.int (6 : Int32))] [(.int p1), (.ref b), (.long (q &&& (((1 : Int64) <<< ((48 : Int32) &&& 0x3f).toInt64) - (1 : Int64))))])) _
    refine XS.iload X0.here hx rfl (hb hby d2_14) rfl ?_
    show Steps p.tables e below (s₁.setTop (mkF m 16 #[.val (.ref b), .val (.int p1), .val (.int (7 : Int32)), .val (.long (q &&& (((1 : Int64) <<< ((48 : Int32) &&& 0x3f).toInt64) - (1 : Int64)))), .second, .val (.int (6 : Int32))] [(.int (6 : Int32)), (.int p1), (.ref b), (.long (q &&& (((1 : Int64) <<< ((48 : Int32) &&& 0x3f).toInt64) - (1 : Int64))))])) _
    refine XS.iadd X0.here hx rfl (hb hby d2_16) rfl ?_
    show Steps p.tables e below (s₁.setTop (mkF m 17 #[.val (.ref b), .val (.int p1), .val (.int (7 : Int32)), .val (.long (q &&& (((1 : Int64) <<< ((48 : Int32) &&& 0x3f).toInt64) - (1 : Int64)))), .second, .val (.int (6 : Int32))] [(.int (p1 + (6 : Int32))), (.ref b), (.long (q &&& (((1 : Int64) <<< ((48 : Int32) &&& 0x3f).toInt64) - (1 : Int64))))])) _
    exact kq)
  obtain ⟨cl97, Ar97, q97, S97, M97, H97, Gf97⟩ := id A
  have hi98 : ¬ ((p1 + (6 : Int32)) < 0 ∨ cl97.slots.size ≤ ((p1 + (6 : Int32))).toNatClampNeg) := (inb_of S97 (hat (6 : Int32) (Or.inr (Or.inr (Or.inr (Or.inr (Or.inr (Or.inr (Or.inl rfl)))))))).1)
  have G99 : Go p e below A0 (s₁.setTop (mkF m 38 #[.val (.ref b), .val (.int p1), .val (.int (7 : Int32)), .val (.long (q &&& (((1 : Int64) <<< ((56 : Int32) &&& 0x3f).toInt64) - (1 : Int64)))), .second, .val (.int (7 : Int32))] [(.long (q &&& (((1 : Int64) <<< ((56 : Int32) &&& 0x3f).toInt64) - (1 : Int64))))])) := fun tq kq => G96 tq (by
    refine X0.baloadBytes hx (j := (p1 + (6 : Int32))) (v := (.int (own_by q (6 : Int32)))) (by rw [e0]; exact Ar97.1) (State.isArrayOf_alike hZ.alike Ar97.2.1) Ar97.2.2 hi98 (H97.at hi98 (hat (6 : Int32) (Or.inr (Or.inr (Or.inr (Or.inr (Or.inr (Or.inr (Or.inl rfl)))))))).2) (g := (mkF m 17 #[.val (.ref b), .val (.int p1), .val (.int (7 : Int32)), .val (.long (q &&& (((1 : Int64) <<< ((48 : Int32) &&& 0x3f).toInt64) - (1 : Int64)))), .second, .val (.int (6 : Int32))] [(.int (p1 + (6 : Int32))), (.ref b), (.long (q &&& (((1 : Int64) <<< ((48 : Int32) &&& 0x3f).toInt64) - (1 : Int64))))])) rfl rfl (hb hby d2_17) _ ?_
    show Steps p.tables e below (s₁.setTop (mkF m 18 #[.val (.ref b), .val (.int p1), .val (.int (7 : Int32)), .val (.long (q &&& (((1 : Int64) <<< ((48 : Int32) &&& 0x3f).toInt64) - (1 : Int64)))), .second, .val (.int (6 : Int32))] [(.int (own_by q (6 : Int32))), (.long (q &&& (((1 : Int64) <<< ((48 : Int32) &&& 0x3f).toInt64) - (1 : Int64))))])) _
    refine XS.sipush X0.here hx rfl (hb hby d2_18) ?_
    show Steps p.tables e below (s₁.setTop (mkF m 21 #[.val (.ref b), .val (.int p1), .val (.int (7 : Int32)), .val (.long (q &&& (((1 : Int64) <<< ((48 : Int32) &&& 0x3f).toInt64) - (1 : Int64)))), .second, .val (.int (6 : Int32))] [(.int (255 : Int32)), (.int (own_by q (6 : Int32))), (.long (q &&& (((1 : Int64) <<< ((48 : Int32) &&& 0x3f).toInt64) - (1 : Int64))))])) _
    refine XS.iand X0.here hx rfl (hb hby d2_21) rfl ?_
    show Steps p.tables e below (s₁.setTop (mkF m 22 #[.val (.ref b), .val (.int p1), .val (.int (7 : Int32)), .val (.long (q &&& (((1 : Int64) <<< ((48 : Int32) &&& 0x3f).toInt64) - (1 : Int64)))), .second, .val (.int (6 : Int32))] [(.int ((own_by q (6 : Int32)) &&& (255 : Int32))), (.long (q &&& (((1 : Int64) <<< ((48 : Int32) &&& 0x3f).toInt64) - (1 : Int64))))])) _
    refine XS.i2l X0.here hx rfl (hb hby d2_22) rfl ?_
    show Steps p.tables e below (s₁.setTop (mkF m 23 #[.val (.ref b), .val (.int p1), .val (.int (7 : Int32)), .val (.long (q &&& (((1 : Int64) <<< ((48 : Int32) &&& 0x3f).toInt64) - (1 : Int64)))), .second, .val (.int (6 : Int32))] [(.long ((own_by q (6 : Int32)) &&& (255 : Int32)).toInt64), (.long (q &&& (((1 : Int64) <<< ((48 : Int32) &&& 0x3f).toInt64) - (1 : Int64))))])) _
    refine XS.bipush X0.here hx rfl (hb hby d2_23) ?_
    show Steps p.tables e below (s₁.setTop (mkF m 25 #[.val (.ref b), .val (.int p1), .val (.int (7 : Int32)), .val (.long (q &&& (((1 : Int64) <<< ((48 : Int32) &&& 0x3f).toInt64) - (1 : Int64)))), .second, .val (.int (6 : Int32))] [(.int (8 : Int32)), (.long ((own_by q (6 : Int32)) &&& (255 : Int32)).toInt64), (.long (q &&& (((1 : Int64) <<< ((48 : Int32) &&& 0x3f).toInt64) - (1 : Int64))))])) _
    refine XS.iload X0.here hx rfl (hb hby d2_25) rfl ?_
    show Steps p.tables e below (s₁.setTop (mkF m 27 #[.val (.ref b), .val (.int p1), .val (.int (7 : Int32)), .val (.long (q &&& (((1 : Int64) <<< ((48 : Int32) &&& 0x3f).toInt64) - (1 : Int64)))), .second, .val (.int (6 : Int32))] [(.int (6 : Int32)), (.int (8 : Int32)), (.long ((own_by q (6 : Int32)) &&& (255 : Int32)).toInt64), (.long (q &&& (((1 : Int64) <<< ((48 : Int32) &&& 0x3f).toInt64) - (1 : Int64))))])) _
    refine XS.imul X0.here hx rfl (hb hby d2_27) rfl ?_
    show Steps p.tables e below (s₁.setTop (mkF m 28 #[.val (.ref b), .val (.int p1), .val (.int (7 : Int32)), .val (.long (q &&& (((1 : Int64) <<< ((48 : Int32) &&& 0x3f).toInt64) - (1 : Int64)))), .second, .val (.int (6 : Int32))] [(.int ((8 : Int32) * (6 : Int32))), (.long ((own_by q (6 : Int32)) &&& (255 : Int32)).toInt64), (.long (q &&& (((1 : Int64) <<< ((48 : Int32) &&& 0x3f).toInt64) - (1 : Int64))))])) _
    rw [show ((8 : Int32) * (6 : Int32)) = (48 : Int32) from (by decide : ((8 : Int32) * (6 : Int32)) = (48 : Int32))]
    show Steps p.tables e below (s₁.setTop (mkF m 28 #[.val (.ref b), .val (.int p1), .val (.int (7 : Int32)), .val (.long (q &&& (((1 : Int64) <<< ((48 : Int32) &&& 0x3f).toInt64) - (1 : Int64)))), .second, .val (.int (6 : Int32))] [(.int (48 : Int32)), (.long ((own_by q (6 : Int32)) &&& (255 : Int32)).toInt64), (.long (q &&& (((1 : Int64) <<< ((48 : Int32) &&& 0x3f).toInt64) - (1 : Int64))))])) _
    refine XS.lshl X0.here hx rfl (hb hby d2_28) rfl ?_
    show Steps p.tables e below (s₁.setTop (mkF m 29 #[.val (.ref b), .val (.int p1), .val (.int (7 : Int32)), .val (.long (q &&& (((1 : Int64) <<< ((48 : Int32) &&& 0x3f).toInt64) - (1 : Int64)))), .second, .val (.int (6 : Int32))] [(.long (((own_by q (6 : Int32)) &&& (255 : Int32)).toInt64 <<< ((48 : Int32) &&& 0x3f).toInt64)), (.long (q &&& (((1 : Int64) <<< ((48 : Int32) &&& 0x3f).toInt64) - (1 : Int64))))])) _
    refine XS.lor X0.here hx rfl (hb hby d2_29) rfl ?_
    show Steps p.tables e below (s₁.setTop (mkF m 30 #[.val (.ref b), .val (.int p1), .val (.int (7 : Int32)), .val (.long (q &&& (((1 : Int64) <<< ((48 : Int32) &&& 0x3f).toInt64) - (1 : Int64)))), .second, .val (.int (6 : Int32))] [(.long ((q &&& (((1 : Int64) <<< ((48 : Int32) &&& 0x3f).toInt64) - (1 : Int64))) ||| (((own_by q (6 : Int32)) &&& (255 : Int32)).toInt64 <<< ((48 : Int32) &&& 0x3f).toInt64)))])) _
    rw [show ((q &&& (((1 : Int64) <<< ((48 : Int32) &&& 0x3f).toInt64) - (1 : Int64))) ||| (((own_by q (6 : Int32)) &&& (255 : Int32)).toInt64 <<< ((48 : Int32) &&& 0x3f).toInt64)) = (q &&& (((1 : Int64) <<< ((56 : Int32) &&& 0x3f).toInt64) - (1 : Int64))) from own_step_6 q]
    show Steps p.tables e below (s₁.setTop (mkF m 30 #[.val (.ref b), .val (.int p1), .val (.int (7 : Int32)), .val (.long (q &&& (((1 : Int64) <<< ((48 : Int32) &&& 0x3f).toInt64) - (1 : Int64)))), .second, .val (.int (6 : Int32))] [(.long (q &&& (((1 : Int64) <<< ((56 : Int32) &&& 0x3f).toInt64) - (1 : Int64))))])) _
    refine XS.lstoreN X0.here hx rfl (hb hby d2_30) rfl (l' := #[.val (.ref b), .val (.int p1), .val (.int (7 : Int32)), .val (.long (q &&& (((1 : Int64) <<< ((56 : Int32) &&& 0x3f).toInt64) - (1 : Int64)))), .second, .val (.int (6 : Int32))]) rfl ?_
    show Steps p.tables e below (s₁.setTop (mkF m 31 #[.val (.ref b), .val (.int p1), .val (.int (7 : Int32)), .val (.long (q &&& (((1 : Int64) <<< ((56 : Int32) &&& 0x3f).toInt64) - (1 : Int64)))), .second, .val (.int (6 : Int32))] [])) _
    refine XS.iinc X0.here hx rfl (hb hby d2_31) rfl (l' := #[.val (.ref b), .val (.int p1), .val (.int (7 : Int32)), .val (.long (q &&& (((1 : Int64) <<< ((56 : Int32) &&& 0x3f).toInt64) - (1 : Int64)))), .second, .val (.int ((6 : Int32) + (1 : Int32)))]) rfl ?_
    show Steps p.tables e below (s₁.setTop (mkF m 34 #[.val (.ref b), .val (.int p1), .val (.int (7 : Int32)), .val (.long (q &&& (((1 : Int64) <<< ((56 : Int32) &&& 0x3f).toInt64) - (1 : Int64)))), .second, .val (.int ((6 : Int32) + (1 : Int32)))] [])) _
    rw [show ((6 : Int32) + (1 : Int32)) = (7 : Int32) from (by decide : ((6 : Int32) + (1 : Int32)) = (7 : Int32))]
    show Steps p.tables e below (s₁.setTop (mkF m 34 #[.val (.ref b), .val (.int p1), .val (.int (7 : Int32)), .val (.long (q &&& (((1 : Int64) <<< ((56 : Int32) &&& 0x3f).toInt64) - (1 : Int64)))), .second, .val (.int (7 : Int32))] [])) _
    refine XS.goto X0.here hx rfl (pc0 := 34) (pc' := 5) rfl (hb hby d2_34) (by decide) (by decide) ?_
    show Steps p.tables e below (s₁.setTop (mkF m 5 #[.val (.ref b), .val (.int p1), .val (.int (7 : Int32)), .val (.long (q &&& (((1 : Int64) <<< ((56 : Int32) &&& 0x3f).toInt64) - (1 : Int64)))), .second, .val (.int (7 : Int32))] [])) _
    refine XS.iload X0.here hx rfl (hb hby d2_5) rfl ?_
    show Steps p.tables e below (s₁.setTop (mkF m 7 #[.val (.ref b), .val (.int p1), .val (.int (7 : Int32)), .val (.long (q &&& (((1 : Int64) <<< ((56 : Int32) &&& 0x3f).toInt64) - (1 : Int64)))), .second, .val (.int (7 : Int32))] [(.int (7 : Int32))])) _
    refine XS.iloadN X0.here hx rfl (hb hby d2_7) rfl ?_
    show Steps p.tables e below (s₁.setTop (mkF m 8 #[.val (.ref b), .val (.int p1), .val (.int (7 : Int32)), .val (.long (q &&& (((1 : Int64) <<< ((56 : Int32) &&& 0x3f).toInt64) - (1 : Int64)))), .second, .val (.int (7 : Int32))] [(.int (7 : Int32)), (.int (7 : Int32))])) _
    refine XS.icmpYes X0.here hx rfl (pc0 := 8) (pc' := 37) rfl (hb hby d2_8) rfl (by decide) (by decide) (by decide) ?_
    show Steps p.tables e below (s₁.setTop (mkF m 37 #[.val (.ref b), .val (.int p1), .val (.int (7 : Int32)), .val (.long (q &&& (((1 : Int64) <<< ((56 : Int32) &&& 0x3f).toInt64) - (1 : Int64)))), .second, .val (.int (7 : Int32))] [])) _
    refine XS.lloadN X0.here hx rfl (hb hby d2_37) rfl ?_
    show Steps p.tables e below (s₁.setTop (mkF m 38 #[.val (.ref b), .val (.int p1), .val (.int (7 : Int32)), .val (.long (q &&& (((1 : Int64) <<< ((56 : Int32) &&& 0x3f).toInt64) - (1 : Int64)))), .second, .val (.int (7 : Int32))] [(.long (q &&& (((1 : Int64) <<< ((56 : Int32) &&& 0x3f).toInt64) - (1 : Int64))))])) _
    exact kq)
  obtain ⟨fs, hr, hrun, hended, hW, hsame⟩ := X0.leave (v := some (.long (q &&& (((1 : Int64) <<< ((56 : Int32) &&& 0x3f).toInt64) - (1 : Int64))))) (fun h => by rw [Bd.returns] at h; cases h)
  refine ⟨_, _, (by rw [← hA0]; exact G99 _ (retOut X0 hx (t := .long) Bd.returns rfl (Or.inr (Or.inl ⟨rfl, rfl, _, rfl⟩)) (hb hby d2_38) hr)), hrun, hended, _, _, rfl, ?_, ⟨_, rfl⟩, hW, hsame.mono (by decide) (by decide)⟩
  exact ⟨rfl, N0, e0⟩
set_option maxRecDepth 65536 in
set_option maxHeartbeats 40000000 in
theorem rm2_8 (l : Launch) (Z : State) (a0 : Array Value) (hw : ∀ d ∈ tables_1, d.before a0 Z = true) (ws : List Jvm.Cond) (b : Addr) (p1 : Int32) (q : Int64) (kb : ClassId) (vs : List Value) (h0 : Heap) (n0 : Nat) (Z0 : n0 ≤ h0.size) (A : Arv Z h0 b kb .byte (12 : Int32) vs (.int (0 : Int32))) (hat : own_Hat vs p1 q) :
    MetFree l (⟨"com/example/ledgerline/ledgerline/format/GrowingBytes", "littleEndian", "([BII)J"⟩ : MethodName) (head1 (Jvm.Cond.code (⟨"com/example/ledgerline/ledgerline/format/GrowingBytes", "littleEndian", "([BII)J"⟩ : MethodName) prog_17_method_11_code 6 (some .long) :: ws) ({ frames := 0, cells := 0, slots := 0, locals := 0 } : Room)) (fun aa UU => aa = #[(.ref b), (.int p1), (.int (8 : Int32))] ∧ Z.Warmed39 UU.vm ∧ UU.heap = h0) (fun _ _ _ _ _ => True) (fun _ UU oo U' => ∃ v L, oo = .returned v ∧ Qr (.long q) h0 n0 v U'.heap L ∧ FrameEnd UU oo U' L ({ frames := 0, cells := 0, slots := 0, locals := 0 } : Room).cells ({ frames := 0, cells := 0, slots := 0, locals := 0 } : Room).slots) := by
  refine MetFree.of_bodySF (plainFor_of_name pn_1) hisR ?_
  intro p e s m args below meth c s₁ Bd hml0 hP hK
  obtain ⟨rfl, hZ, hh⟩ := hP
  have hx := Bd.exec
  have hby := Bd.bytes
  have hml : c.maxLocals = 6 := hml0
  have hown : s.vm.findClass "com/example/ledgerline/ledgerline/format/GrowingBytes" = some m.cls := findClass_of_methodNamed Bd.named
  have hnm := (name_of_methodNamed Bd.named Bd.method).1
  have X0 : Stand p l e ({ frames := 0, cells := 0, slots := 0, locals := 0 } : Room) s m #[(.ref b), (.int p1), (.int (8 : Int32))] below meth c s₁ [] 0 0 := Stand.of_body Bd
  have e0 : s₁.heap = h0 := by rw [← hh, Bd.state]; rfl
  have N0 := Fr.nil n0
  obtain ⟨A0, hA0⟩ : ∃ A, A = s₁.setTop (entryFrame m #[(.ref b), (.int p1), (.int (8 : Int32))] 6) := ⟨_, rfl⟩
  have G0 : Go p e below A0 (s₁.setTop (mkF m 0 #[.val (.ref b), .val (.int p1), .val (.int (8 : Int32)), .unset, .unset, .unset] [])) := fun tq kq => by rw [hA0]; exact castTop (ef_rm2_8 m b p1 (8 : Int32)) kq
  have G100 : Go p e below A0 (s₁.setTop (mkF m 17 #[.val (.ref b), .val (.int p1), .val (.int (8 : Int32)), .val (.long (0 : Int64)), .second, .val (.int (0 : Int32))] [(.int (p1 + (0 : Int32))), (.ref b), (.long (0 : Int64))])) := fun tq kq => G0 tq (by
    refine XS.lconst X0.here hx rfl (hb hby d2_0) ?_
    show Steps p.tables e below (s₁.setTop (mkF m 1 #[.val (.ref b), .val (.int p1), .val (.int (8 : Int32)), .unset, .unset, .unset] [(.long (0 : Int64))])) _
    refine XS.lstoreN X0.here hx rfl (hb hby d2_1) rfl (l' := #[.val (.ref b), .val (.int p1), .val (.int (8 : Int32)), .val (.long (0 : Int64)), .second, .unset]) rfl ?_
    show Steps p.tables e below (s₁.setTop (mkF m 2 #[.val (.ref b), .val (.int p1), .val (.int (8 : Int32)), .val (.long (0 : Int64)), .second, .unset] [])) _
    refine XS.iconst X0.here hx rfl (hb hby d2_2) ?_
    show Steps p.tables e below (s₁.setTop (mkF m 3 #[.val (.ref b), .val (.int p1), .val (.int (8 : Int32)), .val (.long (0 : Int64)), .second, .unset] [(.int (0 : Int32))])) _
    refine XS.istore X0.here hx rfl (hb hby d2_3) rfl (l' := #[.val (.ref b), .val (.int p1), .val (.int (8 : Int32)), .val (.long (0 : Int64)), .second, .val (.int (0 : Int32))]) rfl ?_
    show Steps p.tables e below (s₁.setTop (mkF m 5 #[.val (.ref b), .val (.int p1), .val (.int (8 : Int32)), .val (.long (0 : Int64)), .second, .val (.int (0 : Int32))] [])) _
    refine XS.iload X0.here hx rfl (hb hby d2_5) rfl ?_
    show Steps p.tables e below (s₁.setTop (mkF m 7 #[.val (.ref b), .val (.int p1), .val (.int (8 : Int32)), .val (.long (0 : Int64)), .second, .val (.int (0 : Int32))] [(.int (0 : Int32))])) _
    refine XS.iloadN X0.here hx rfl (hb hby d2_7) rfl ?_
    show Steps p.tables e below (s₁.setTop (mkF m 8 #[.val (.ref b), .val (.int p1), .val (.int (8 : Int32)), .val (.long (0 : Int64)), .second, .val (.int (0 : Int32))] [(.int (8 : Int32)), (.int (0 : Int32))])) _
    refine XS.icmpNo X0.here hx rfl (hb hby d2_8) rfl (by decide) ?_
    show Steps p.tables e below (s₁.setTop (mkF m 11 #[.val (.ref b), .val (.int p1), .val (.int (8 : Int32)), .val (.long (0 : Int64)), .second, .val (.int (0 : Int32))] [])) _
    refine XS.lloadN X0.here hx rfl (hb hby d2_11) rfl ?_
    show Steps p.tables e below (s₁.setTop (mkF m 12 #[.val (.ref b), .val (.int p1), .val (.int (8 : Int32)), .val (.long (0 : Int64)), .second, .val (.int (0 : Int32))] [(.long (0 : Int64))])) _
    refine XS.aloadN X0.here hx rfl (hb hby d2_12) rfl rfl ?_
    show Steps p.tables e below (s₁.setTop (mkF m 13 #[.val (.ref b), .val (.int p1), .val (.int (8 : Int32)), .val (.long (0 : Int64)), .second, .val (.int (0 : Int32))] [(.ref b), (.long (0 : Int64))])) _
    refine XS.iloadN X0.here hx rfl (hb hby d2_13) rfl ?_
    show Steps p.tables e below (s₁.setTop (mkF m 14 #[.val (.ref b), .val (.int p1), .val (.int (8 : Int32)), .val (.long (0 : Int64)), .second, .val (.int (0 : Int32))] [(.int p1), (.ref b), (.long (0 : Int64))])) _
    refine XS.iload X0.here hx rfl (hb hby d2_14) rfl ?_
    show Steps p.tables e below (s₁.setTop (mkF m 16 #[.val (.ref b), .val (.int p1), .val (.int (8 : Int32)), .val (.long (0 : Int64)), .second, .val (.int (0 : Int32))] [(.int (0 : Int32)), (.int p1), (.ref b), (.long (0 : Int64))])) _
    refine XS.iadd X0.here hx rfl (hb hby d2_16) rfl ?_
    show Steps p.tables e below (s₁.setTop (mkF m 17 #[.val (.ref b), .val (.int p1), .val (.int (8 : Int32)), .val (.long (0 : Int64)), .second, .val (.int (0 : Int32))] [(.int (p1 + (0 : Int32))), (.ref b), (.long (0 : Int64))])) _
    exact kq)
  obtain ⟨cl101, Ar101, q101, S101, M101, H101, Gf101⟩ := id A
  have hi102 : ¬ ((p1 + (0 : Int32)) < 0 ∨ cl101.slots.size ≤ ((p1 + (0 : Int32))).toNatClampNeg) := (inb_of S101 (hat (0 : Int32) (Or.inl rfl)).1)
  have G103 : Go p e below A0 (s₁.setTop (mkF m 17 #[.val (.ref b), .val (.int p1), .val (.int (8 : Int32)), .val (.long (q &&& (((1 : Int64) <<< ((8 : Int32) &&& 0x3f).toInt64) - (1 : Int64)))), .second, .val (.int (1 : Int32))] [(.int (p1 + (1 : Int32))), (.ref b), (.long (q &&& (((1 : Int64) <<< ((8 : Int32) &&& 0x3f).toInt64) - (1 : Int64))))])) := fun tq kq => G100 tq (by
    refine X0.baloadBytes hx (j := (p1 + (0 : Int32))) (v := (.int (own_by q (0 : Int32)))) (by rw [e0]; exact Ar101.1) (State.isArrayOf_alike hZ.alike Ar101.2.1) Ar101.2.2 hi102 (H101.at hi102 (hat (0 : Int32) (Or.inl rfl)).2) (g := (mkF m 17 #[.val (.ref b), .val (.int p1), .val (.int (8 : Int32)), .val (.long (0 : Int64)), .second, .val (.int (0 : Int32))] [(.int (p1 + (0 : Int32))), (.ref b), (.long (0 : Int64))])) rfl rfl (hb hby d2_17) _ ?_
    show Steps p.tables e below (s₁.setTop (mkF m 18 #[.val (.ref b), .val (.int p1), .val (.int (8 : Int32)), .val (.long (0 : Int64)), .second, .val (.int (0 : Int32))] [(.int (own_by q (0 : Int32))), (.long (0 : Int64))])) _
    refine XS.sipush X0.here hx rfl (hb hby d2_18) ?_
    show Steps p.tables e below (s₁.setTop (mkF m 21 #[.val (.ref b), .val (.int p1), .val (.int (8 : Int32)), .val (.long (0 : Int64)), .second, .val (.int (0 : Int32))] [(.int (255 : Int32)), (.int (own_by q (0 : Int32))), (.long (0 : Int64))])) _
    refine XS.iand X0.here hx rfl (hb hby d2_21) rfl ?_
    show Steps p.tables e below (s₁.setTop (mkF m 22 #[.val (.ref b), .val (.int p1), .val (.int (8 : Int32)), .val (.long (0 : Int64)), .second, .val (.int (0 : Int32))] [(.int ((own_by q (0 : Int32)) &&& (255 : Int32))), (.long (0 : Int64))])) _
    refine XS.i2l X0.here hx rfl (hb hby d2_22) rfl ?_
    show Steps p.tables e below (s₁.setTop (mkF m 23 #[.val (.ref b), .val (.int p1), .val (.int (8 : Int32)), .val (.long (0 : Int64)), .second, .val (.int (0 : Int32))] [(.long ((own_by q (0 : Int32)) &&& (255 : Int32)).toInt64), (.long (0 : Int64))])) _
    refine XS.bipush X0.here hx rfl (hb hby d2_23) ?_
    show Steps p.tables e below (s₁.setTop (mkF m 25 #[.val (.ref b), .val (.int p1), .val (.int (8 : Int32)), .val (.long (0 : Int64)), .second, .val (.int (0 : Int32))] [(.int (8 : Int32)), (.long ((own_by q (0 : Int32)) &&& (255 : Int32)).toInt64), (.long (0 : Int64))])) _
    refine XS.iload X0.here hx rfl (hb hby d2_25) rfl ?_
    show Steps p.tables e below (s₁.setTop (mkF m 27 #[.val (.ref b), .val (.int p1), .val (.int (8 : Int32)), .val (.long (0 : Int64)), .second, .val (.int (0 : Int32))] [(.int (0 : Int32)), (.int (8 : Int32)), (.long ((own_by q (0 : Int32)) &&& (255 : Int32)).toInt64), (.long (0 : Int64))])) _
    refine XS.imul X0.here hx rfl (hb hby d2_27) rfl ?_
    show Steps p.tables e below (s₁.setTop (mkF m 28 #[.val (.ref b), .val (.int p1), .val (.int (8 : Int32)), .val (.long (0 : Int64)), .second, .val (.int (0 : Int32))] [(.int ((8 : Int32) * (0 : Int32))), (.long ((own_by q (0 : Int32)) &&& (255 : Int32)).toInt64), (.long (0 : Int64))])) _
    rw [show ((8 : Int32) * (0 : Int32)) = (0 : Int32) from (by decide : ((8 : Int32) * (0 : Int32)) = (0 : Int32))]
    show Steps p.tables e below (s₁.setTop (mkF m 28 #[.val (.ref b), .val (.int p1), .val (.int (8 : Int32)), .val (.long (0 : Int64)), .second, .val (.int (0 : Int32))] [(.int (0 : Int32)), (.long ((own_by q (0 : Int32)) &&& (255 : Int32)).toInt64), (.long (0 : Int64))])) _
    refine XS.lshl X0.here hx rfl (hb hby d2_28) rfl ?_
    show Steps p.tables e below (s₁.setTop (mkF m 29 #[.val (.ref b), .val (.int p1), .val (.int (8 : Int32)), .val (.long (0 : Int64)), .second, .val (.int (0 : Int32))] [(.long (((own_by q (0 : Int32)) &&& (255 : Int32)).toInt64 <<< ((0 : Int32) &&& 0x3f).toInt64)), (.long (0 : Int64))])) _
    refine XS.lor X0.here hx rfl (hb hby d2_29) rfl ?_
    show Steps p.tables e below (s₁.setTop (mkF m 30 #[.val (.ref b), .val (.int p1), .val (.int (8 : Int32)), .val (.long (0 : Int64)), .second, .val (.int (0 : Int32))] [(.long ((0 : Int64) ||| (((own_by q (0 : Int32)) &&& (255 : Int32)).toInt64 <<< ((0 : Int32) &&& 0x3f).toInt64)))])) _
    rw [show ((0 : Int64) ||| (((own_by q (0 : Int32)) &&& (255 : Int32)).toInt64 <<< ((0 : Int32) &&& 0x3f).toInt64)) = (q &&& (((1 : Int64) <<< ((8 : Int32) &&& 0x3f).toInt64) - (1 : Int64))) from own_step_0 q]
    show Steps p.tables e below (s₁.setTop (mkF m 30 #[.val (.ref b), .val (.int p1), .val (.int (8 : Int32)), .val (.long (0 : Int64)), .second, .val (.int (0 : Int32))] [(.long (q &&& (((1 : Int64) <<< ((8 : Int32) &&& 0x3f).toInt64) - (1 : Int64))))])) _
    refine XS.lstoreN X0.here hx rfl (hb hby d2_30) rfl (l' := #[.val (.ref b), .val (.int p1), .val (.int (8 : Int32)), .val (.long (q &&& (((1 : Int64) <<< ((8 : Int32) &&& 0x3f).toInt64) - (1 : Int64)))), .second, .val (.int (0 : Int32))]) rfl ?_
    show Steps p.tables e below (s₁.setTop (mkF m 31 #[.val (.ref b), .val (.int p1), .val (.int (8 : Int32)), .val (.long (q &&& (((1 : Int64) <<< ((8 : Int32) &&& 0x3f).toInt64) - (1 : Int64)))), .second, .val (.int (0 : Int32))] [])) _
    refine XS.iinc X0.here hx rfl (hb hby d2_31) rfl (l' := #[.val (.ref b), .val (.int p1), .val (.int (8 : Int32)), .val (.long (q &&& (((1 : Int64) <<< ((8 : Int32) &&& 0x3f).toInt64) - (1 : Int64)))), .second, .val (.int ((0 : Int32) + (1 : Int32)))]) rfl ?_
    show Steps p.tables e below (s₁.setTop (mkF m 34 #[.val (.ref b), .val (.int p1), .val (.int (8 : Int32)), .val (.long (q &&& (((1 : Int64) <<< ((8 : Int32) &&& 0x3f).toInt64) - (1 : Int64)))), .second, .val (.int ((0 : Int32) + (1 : Int32)))] [])) _
    rw [show ((0 : Int32) + (1 : Int32)) = (1 : Int32) from (by decide : ((0 : Int32) + (1 : Int32)) = (1 : Int32))]
    show Steps p.tables e below (s₁.setTop (mkF m 34 #[.val (.ref b), .val (.int p1), .val (.int (8 : Int32)), .val (.long (q &&& (((1 : Int64) <<< ((8 : Int32) &&& 0x3f).toInt64) - (1 : Int64)))), .second, .val (.int (1 : Int32))] [])) _
    refine XS.goto X0.here hx rfl (pc0 := 34) (pc' := 5) rfl (hb hby d2_34) (by decide) (by decide) ?_
    show Steps p.tables e below (s₁.setTop (mkF m 5 #[.val (.ref b), .val (.int p1), .val (.int (8 : Int32)), .val (.long (q &&& (((1 : Int64) <<< ((8 : Int32) &&& 0x3f).toInt64) - (1 : Int64)))), .second, .val (.int (1 : Int32))] [])) _
    refine XS.iload X0.here hx rfl (hb hby d2_5) rfl ?_
    show Steps p.tables e below (s₁.setTop (mkF m 7 #[.val (.ref b), .val (.int p1), .val (.int (8 : Int32)), .val (.long (q &&& (((1 : Int64) <<< ((8 : Int32) &&& 0x3f).toInt64) - (1 : Int64)))), .second, .val (.int (1 : Int32))] [(.int (1 : Int32))])) _
    refine XS.iloadN X0.here hx rfl (hb hby d2_7) rfl ?_
    show Steps p.tables e below (s₁.setTop (mkF m 8 #[.val (.ref b), .val (.int p1), .val (.int (8 : Int32)), .val (.long (q &&& (((1 : Int64) <<< ((8 : Int32) &&& 0x3f).toInt64) - (1 : Int64)))), .second, .val (.int (1 : Int32))] [(.int (8 : Int32)), (.int (1 : Int32))])) _
    refine XS.icmpNo X0.here hx rfl (hb hby d2_8) rfl (by decide) ?_
    show Steps p.tables e below (s₁.setTop (mkF m 11 #[.val (.ref b), .val (.int p1), .val (.int (8 : Int32)), .val (.long (q &&& (((1 : Int64) <<< ((8 : Int32) &&& 0x3f).toInt64) - (1 : Int64)))), .second, .val (.int (1 : Int32))] [])) _
    refine XS.lloadN X0.here hx rfl (hb hby d2_11) rfl ?_
    show Steps p.tables e below (s₁.setTop (mkF m 12 #[.val (.ref b), .val (.int p1), .val (.int (8 : Int32)), .val (.long (q &&& (((1 : Int64) <<< ((8 : Int32) &&& 0x3f).toInt64) - (1 : Int64)))), .second, .val (.int (1 : Int32))] [(.long (q &&& (((1 : Int64) <<< ((8 : Int32) &&& 0x3f).toInt64) - (1 : Int64))))])) _
    refine XS.aloadN X0.here hx rfl (hb hby d2_12) rfl rfl ?_
    show Steps p.tables e below (s₁.setTop (mkF m 13 #[.val (.ref b), .val (.int p1), .val (.int (8 : Int32)), .val (.long (q &&& (((1 : Int64) <<< ((8 : Int32) &&& 0x3f).toInt64) - (1 : Int64)))), .second, .val (.int (1 : Int32))] [(.ref b), (.long (q &&& (((1 : Int64) <<< ((8 : Int32) &&& 0x3f).toInt64) - (1 : Int64))))])) _
    refine XS.iloadN X0.here hx rfl (hb hby d2_13) rfl ?_
    show Steps p.tables e below (s₁.setTop (mkF m 14 #[.val (.ref b), .val (.int p1), .val (.int (8 : Int32)), .val (.long (q &&& (((1 : Int64) <<< ((8 : Int32) &&& 0x3f).toInt64) - (1 : Int64)))), .second, .val (.int (1 : Int32))] [(.int p1), (.ref b), (.long (q &&& (((1 : Int64) <<< ((8 : Int32) &&& 0x3f).toInt64) - (1 : Int64))))])) _
    refine XS.iload X0.here hx rfl (hb hby d2_14) rfl ?_
    show Steps p.tables e below (s₁.setTop (mkF m 16 #[.val (.ref b), .val (.int p1), .val (.int (8 : Int32)), .val (.long (q &&& (((1 : Int64) <<< ((8 : Int32) &&& 0x3f).toInt64) - (1 : Int64)))), .second, .val (.int (1 : Int32))] [(.int (1 : Int32)), (.int p1), (.ref b), (.long (q &&& (((1 : Int64) <<< ((8 : Int32) &&& 0x3f).toInt64) - (1 : Int64))))])) _
    refine XS.iadd X0.here hx rfl (hb hby d2_16) rfl ?_
    show Steps p.tables e below (s₁.setTop (mkF m 17 #[.val (.ref b), .val (.int p1), .val (.int (8 : Int32)), .val (.long (q &&& (((1 : Int64) <<< ((8 : Int32) &&& 0x3f).toInt64) - (1 : Int64)))), .second, .val (.int (1 : Int32))] [(.int (p1 + (1 : Int32))), (.ref b), (.long (q &&& (((1 : Int64) <<< ((8 : Int32) &&& 0x3f).toInt64) - (1 : Int64))))])) _
    exact kq)
  obtain ⟨cl104, Ar104, q104, S104, M104, H104, Gf104⟩ := id A
  have hi105 : ¬ ((p1 + (1 : Int32)) < 0 ∨ cl104.slots.size ≤ ((p1 + (1 : Int32))).toNatClampNeg) := (inb_of S104 (hat (1 : Int32) (Or.inr (Or.inl rfl))).1)
  have G106 : Go p e below A0 (s₁.setTop (mkF m 17 #[.val (.ref b), .val (.int p1), .val (.int (8 : Int32)), .val (.long (q &&& (((1 : Int64) <<< ((16 : Int32) &&& 0x3f).toInt64) - (1 : Int64)))), .second, .val (.int (2 : Int32))] [(.int (p1 + (2 : Int32))), (.ref b), (.long (q &&& (((1 : Int64) <<< ((16 : Int32) &&& 0x3f).toInt64) - (1 : Int64))))])) := fun tq kq => G103 tq (by
    refine X0.baloadBytes hx (j := (p1 + (1 : Int32))) (v := (.int (own_by q (1 : Int32)))) (by rw [e0]; exact Ar104.1) (State.isArrayOf_alike hZ.alike Ar104.2.1) Ar104.2.2 hi105 (H104.at hi105 (hat (1 : Int32) (Or.inr (Or.inl rfl))).2) (g := (mkF m 17 #[.val (.ref b), .val (.int p1), .val (.int (8 : Int32)), .val (.long (q &&& (((1 : Int64) <<< ((8 : Int32) &&& 0x3f).toInt64) - (1 : Int64)))), .second, .val (.int (1 : Int32))] [(.int (p1 + (1 : Int32))), (.ref b), (.long (q &&& (((1 : Int64) <<< ((8 : Int32) &&& 0x3f).toInt64) - (1 : Int64))))])) rfl rfl (hb hby d2_17) _ ?_
    show Steps p.tables e below (s₁.setTop (mkF m 18 #[.val (.ref b), .val (.int p1), .val (.int (8 : Int32)), .val (.long (q &&& (((1 : Int64) <<< ((8 : Int32) &&& 0x3f).toInt64) - (1 : Int64)))), .second, .val (.int (1 : Int32))] [(.int (own_by q (1 : Int32))), (.long (q &&& (((1 : Int64) <<< ((8 : Int32) &&& 0x3f).toInt64) - (1 : Int64))))])) _
    refine XS.sipush X0.here hx rfl (hb hby d2_18) ?_
    show Steps p.tables e below (s₁.setTop (mkF m 21 #[.val (.ref b), .val (.int p1), .val (.int (8 : Int32)), .val (.long (q &&& (((1 : Int64) <<< ((8 : Int32) &&& 0x3f).toInt64) - (1 : Int64)))), .second, .val (.int (1 : Int32))] [(.int (255 : Int32)), (.int (own_by q (1 : Int32))), (.long (q &&& (((1 : Int64) <<< ((8 : Int32) &&& 0x3f).toInt64) - (1 : Int64))))])) _
    refine XS.iand X0.here hx rfl (hb hby d2_21) rfl ?_
    show Steps p.tables e below (s₁.setTop (mkF m 22 #[.val (.ref b), .val (.int p1), .val (.int (8 : Int32)), .val (.long (q &&& (((1 : Int64) <<< ((8 : Int32) &&& 0x3f).toInt64) - (1 : Int64)))), .second, .val (.int (1 : Int32))] [(.int ((own_by q (1 : Int32)) &&& (255 : Int32))), (.long (q &&& (((1 : Int64) <<< ((8 : Int32) &&& 0x3f).toInt64) - (1 : Int64))))])) _
    refine XS.i2l X0.here hx rfl (hb hby d2_22) rfl ?_
    show Steps p.tables e below (s₁.setTop (mkF m 23 #[.val (.ref b), .val (.int p1), .val (.int (8 : Int32)), .val (.long (q &&& (((1 : Int64) <<< ((8 : Int32) &&& 0x3f).toInt64) - (1 : Int64)))), .second, .val (.int (1 : Int32))] [(.long ((own_by q (1 : Int32)) &&& (255 : Int32)).toInt64), (.long (q &&& (((1 : Int64) <<< ((8 : Int32) &&& 0x3f).toInt64) - (1 : Int64))))])) _
    refine XS.bipush X0.here hx rfl (hb hby d2_23) ?_
    show Steps p.tables e below (s₁.setTop (mkF m 25 #[.val (.ref b), .val (.int p1), .val (.int (8 : Int32)), .val (.long (q &&& (((1 : Int64) <<< ((8 : Int32) &&& 0x3f).toInt64) - (1 : Int64)))), .second, .val (.int (1 : Int32))] [(.int (8 : Int32)), (.long ((own_by q (1 : Int32)) &&& (255 : Int32)).toInt64), (.long (q &&& (((1 : Int64) <<< ((8 : Int32) &&& 0x3f).toInt64) - (1 : Int64))))])) _
    refine XS.iload X0.here hx rfl (hb hby d2_25) rfl ?_
    show Steps p.tables e below (s₁.setTop (mkF m 27 #[.val (.ref b), .val (.int p1), .val (.int (8 : Int32)), .val (.long (q &&& (((1 : Int64) <<< ((8 : Int32) &&& 0x3f).toInt64) - (1 : Int64)))), .second, .val (.int (1 : Int32))] [(.int (1 : Int32)), (.int (8 : Int32)), (.long ((own_by q (1 : Int32)) &&& (255 : Int32)).toInt64), (.long (q &&& (((1 : Int64) <<< ((8 : Int32) &&& 0x3f).toInt64) - (1 : Int64))))])) _
    refine XS.imul X0.here hx rfl (hb hby d2_27) rfl ?_
    show Steps p.tables e below (s₁.setTop (mkF m 28 #[.val (.ref b), .val (.int p1), .val (.int (8 : Int32)), .val (.long (q &&& (((1 : Int64) <<< ((8 : Int32) &&& 0x3f).toInt64) - (1 : Int64)))), .second, .val (.int (1 : Int32))] [(.int ((8 : Int32) * (1 : Int32))), (.long ((own_by q (1 : Int32)) &&& (255 : Int32)).toInt64), (.long (q &&& (((1 : Int64) <<< ((8 : Int32) &&& 0x3f).toInt64) - (1 : Int64))))])) _
    rw [show ((8 : Int32) * (1 : Int32)) = (8 : Int32) from (by decide : ((8 : Int32) * (1 : Int32)) = (8 : Int32))]
    show Steps p.tables e below (s₁.setTop (mkF m 28 #[.val (.ref b), .val (.int p1), .val (.int (8 : Int32)), .val (.long (q &&& (((1 : Int64) <<< ((8 : Int32) &&& 0x3f).toInt64) - (1 : Int64)))), .second, .val (.int (1 : Int32))] [(.int (8 : Int32)), (.long ((own_by q (1 : Int32)) &&& (255 : Int32)).toInt64), (.long (q &&& (((1 : Int64) <<< ((8 : Int32) &&& 0x3f).toInt64) - (1 : Int64))))])) _
    refine XS.lshl X0.here hx rfl (hb hby d2_28) rfl ?_
    show Steps p.tables e below (s₁.setTop (mkF m 29 #[.val (.ref b), .val (.int p1), .val (.int (8 : Int32)), .val (.long (q &&& (((1 : Int64) <<< ((8 : Int32) &&& 0x3f).toInt64) - (1 : Int64)))), .second, .val (.int (1 : Int32))] [(.long (((own_by q (1 : Int32)) &&& (255 : Int32)).toInt64 <<< ((8 : Int32) &&& 0x3f).toInt64)), (.long (q &&& (((1 : Int64) <<< ((8 : Int32) &&& 0x3f).toInt64) - (1 : Int64))))])) _
    refine XS.lor X0.here hx rfl (hb hby d2_29) rfl ?_
    show Steps p.tables e below (s₁.setTop (mkF m 30 #[.val (.ref b), .val (.int p1), .val (.int (8 : Int32)), .val (.long (q &&& (((1 : Int64) <<< ((8 : Int32) &&& 0x3f).toInt64) - (1 : Int64)))), .second, .val (.int (1 : Int32))] [(.long ((q &&& (((1 : Int64) <<< ((8 : Int32) &&& 0x3f).toInt64) - (1 : Int64))) ||| (((own_by q (1 : Int32)) &&& (255 : Int32)).toInt64 <<< ((8 : Int32) &&& 0x3f).toInt64)))])) _
    rw [show ((q &&& (((1 : Int64) <<< ((8 : Int32) &&& 0x3f).toInt64) - (1 : Int64))) ||| (((own_by q (1 : Int32)) &&& (255 : Int32)).toInt64 <<< ((8 : Int32) &&& 0x3f).toInt64)) = (q &&& (((1 : Int64) <<< ((16 : Int32) &&& 0x3f).toInt64) - (1 : Int64))) from own_step_1 q]
    show Steps p.tables e below (s₁.setTop (mkF m 30 #[.val (.ref b), .val (.int p1), .val (.int (8 : Int32)), .val (.long (q &&& (((1 : Int64) <<< ((8 : Int32) &&& 0x3f).toInt64) - (1 : Int64)))), .second, .val (.int (1 : Int32))] [(.long (q &&& (((1 : Int64) <<< ((16 : Int32) &&& 0x3f).toInt64) - (1 : Int64))))])) _
    refine XS.lstoreN X0.here hx rfl (hb hby d2_30) rfl (l' := #[.val (.ref b), .val (.int p1), .val (.int (8 : Int32)), .val (.long (q &&& (((1 : Int64) <<< ((16 : Int32) &&& 0x3f).toInt64) - (1 : Int64)))), .second, .val (.int (1 : Int32))]) rfl ?_
    show Steps p.tables e below (s₁.setTop (mkF m 31 #[.val (.ref b), .val (.int p1), .val (.int (8 : Int32)), .val (.long (q &&& (((1 : Int64) <<< ((16 : Int32) &&& 0x3f).toInt64) - (1 : Int64)))), .second, .val (.int (1 : Int32))] [])) _
    refine XS.iinc X0.here hx rfl (hb hby d2_31) rfl (l' := #[.val (.ref b), .val (.int p1), .val (.int (8 : Int32)), .val (.long (q &&& (((1 : Int64) <<< ((16 : Int32) &&& 0x3f).toInt64) - (1 : Int64)))), .second, .val (.int ((1 : Int32) + (1 : Int32)))]) rfl ?_
    show Steps p.tables e below (s₁.setTop (mkF m 34 #[.val (.ref b), .val (.int p1), .val (.int (8 : Int32)), .val (.long (q &&& (((1 : Int64) <<< ((16 : Int32) &&& 0x3f).toInt64) - (1 : Int64)))), .second, .val (.int ((1 : Int32) + (1 : Int32)))] [])) _
    rw [show ((1 : Int32) + (1 : Int32)) = (2 : Int32) from (by decide : ((1 : Int32) + (1 : Int32)) = (2 : Int32))]
    show Steps p.tables e below (s₁.setTop (mkF m 34 #[.val (.ref b), .val (.int p1), .val (.int (8 : Int32)), .val (.long (q &&& (((1 : Int64) <<< ((16 : Int32) &&& 0x3f).toInt64) - (1 : Int64)))), .second, .val (.int (2 : Int32))] [])) _
    refine XS.goto X0.here hx rfl (pc0 := 34) (pc' := 5) rfl (hb hby d2_34) (by decide) (by decide) ?_
    show Steps p.tables e below (s₁.setTop (mkF m 5 #[.val (.ref b), .val (.int p1), .val (.int (8 : Int32)), .val (.long (q &&& (((1 : Int64) <<< ((16 : Int32) &&& 0x3f).toInt64) - (1 : Int64)))), .second, .val (.int (2 : Int32))] [])) _
    refine XS.iload X0.here hx rfl (hb hby d2_5) rfl ?_
    show Steps p.tables e below (s₁.setTop (mkF m 7 #[.val (.ref b), .val (.int p1), .val (.int (8 : Int32)), .val (.long (q &&& (((1 : Int64) <<< ((16 : Int32) &&& 0x3f).toInt64) - (1 : Int64)))), .second, .val (.int (2 : Int32))] [(.int (2 : Int32))])) _
    refine XS.iloadN X0.here hx rfl (hb hby d2_7) rfl ?_
    show Steps p.tables e below (s₁.setTop (mkF m 8 #[.val (.ref b), .val (.int p1), .val (.int (8 : Int32)), .val (.long (q &&& (((1 : Int64) <<< ((16 : Int32) &&& 0x3f).toInt64) - (1 : Int64)))), .second, .val (.int (2 : Int32))] [(.int (8 : Int32)), (.int (2 : Int32))])) _
    refine XS.icmpNo X0.here hx rfl (hb hby d2_8) rfl (by decide) ?_
    show Steps p.tables e below (s₁.setTop (mkF m 11 #[.val (.ref b), .val (.int p1), .val (.int (8 : Int32)), .val (.long (q &&& (((1 : Int64) <<< ((16 : Int32) &&& 0x3f).toInt64) - (1 : Int64)))), .second, .val (.int (2 : Int32))] [])) _
    refine XS.lloadN X0.here hx rfl (hb hby d2_11) rfl ?_
    show Steps p.tables e below (s₁.setTop (mkF m 12 #[.val (.ref b), .val (.int p1), .val (.int (8 : Int32)), .val (.long (q &&& (((1 : Int64) <<< ((16 : Int32) &&& 0x3f).toInt64) - (1 : Int64)))), .second, .val (.int (2 : Int32))] [(.long (q &&& (((1 : Int64) <<< ((16 : Int32) &&& 0x3f).toInt64) - (1 : Int64))))])) _
    refine XS.aloadN X0.here hx rfl (hb hby d2_12) rfl rfl ?_
    show Steps p.tables e below (s₁.setTop (mkF m 13 #[.val (.ref b), .val (.int p1), .val (.int (8 : Int32)), .val (.long (q &&& (((1 : Int64) <<< ((16 : Int32) &&& 0x3f).toInt64) - (1 : Int64)))), .second, .val (.int (2 : Int32))] [(.ref b), (.long (q &&& (((1 : Int64) <<< ((16 : Int32) &&& 0x3f).toInt64) - (1 : Int64))))])) _
    refine XS.iloadN X0.here hx rfl (hb hby d2_13) rfl ?_
    show Steps p.tables e below (s₁.setTop (mkF m 14 #[.val (.ref b), .val (.int p1), .val (.int (8 : Int32)), .val (.long (q &&& (((1 : Int64) <<< ((16 : Int32) &&& 0x3f).toInt64) - (1 : Int64)))), .second, .val (.int (2 : Int32))] [(.int p1), (.ref b), (.long (q &&& (((1 : Int64) <<< ((16 : Int32) &&& 0x3f).toInt64) - (1 : Int64))))])) _
    refine XS.iload X0.here hx rfl (hb hby d2_14) rfl ?_
    show Steps p.tables e below (s₁.setTop (mkF m 16 #[.val (.ref b), .val (.int p1), .val (.int (8 : Int32)), .val (.long (q &&& (((1 : Int64) <<< ((16 : Int32) &&& 0x3f).toInt64) - (1 : Int64)))), .second, .val (.int (2 : Int32))] [(.int (2 : Int32)), (.int p1), (.ref b), (.long (q &&& (((1 : Int64) <<< ((16 : Int32) &&& 0x3f).toInt64) - (1 : Int64))))])) _
    refine XS.iadd X0.here hx rfl (hb hby d2_16) rfl ?_
    show Steps p.tables e below (s₁.setTop (mkF m 17 #[.val (.ref b), .val (.int p1), .val (.int (8 : Int32)), .val (.long (q &&& (((1 : Int64) <<< ((16 : Int32) &&& 0x3f).toInt64) - (1 : Int64)))), .second, .val (.int (2 : Int32))] [(.int (p1 + (2 : Int32))), (.ref b), (.long (q &&& (((1 : Int64) <<< ((16 : Int32) &&& 0x3f).toInt64) - (1 : Int64))))])) _
    exact kq)
  obtain ⟨cl107, Ar107, q107, S107, M107, H107, Gf107⟩ := id A
  have hi108 : ¬ ((p1 + (2 : Int32)) < 0 ∨ cl107.slots.size ≤ ((p1 + (2 : Int32))).toNatClampNeg) := (inb_of S107 (hat (2 : Int32) (Or.inr (Or.inr (Or.inl rfl)))).1)
  have G109 : Go p e below A0 (s₁.setTop (mkF m 17 #[.val (.ref b), .val (.int p1), .val (.int (8 : Int32)), .val (.long (q &&& (((1 : Int64) <<< ((24 : Int32) &&& 0x3f).toInt64) - (1 : Int64)))), .second, .val (.int (3 : Int32))] [(.int (p1 + (3 : Int32))), (.ref b), (.long (q &&& (((1 : Int64) <<< ((24 : Int32) &&& 0x3f).toInt64) - (1 : Int64))))])) := fun tq kq => G106 tq (by
    refine X0.baloadBytes hx (j := (p1 + (2 : Int32))) (v := (.int (own_by q (2 : Int32)))) (by rw [e0]; exact Ar107.1) (State.isArrayOf_alike hZ.alike Ar107.2.1) Ar107.2.2 hi108 (H107.at hi108 (hat (2 : Int32) (Or.inr (Or.inr (Or.inl rfl)))).2) (g := (mkF m 17 #[.val (.ref b), .val (.int p1), .val (.int (8 : Int32)), .val (.long (q &&& (((1 : Int64) <<< ((16 : Int32) &&& 0x3f).toInt64) - (1 : Int64)))), .second, .val (.int (2 : Int32))] [(.int (p1 + (2 : Int32))), (.ref b), (.long (q &&& (((1 : Int64) <<< ((16 : Int32) &&& 0x3f).toInt64) - (1 : Int64))))])) rfl rfl (hb hby d2_17) _ ?_
    show Steps p.tables e below (s₁.setTop (mkF m 18 #[.val (.ref b), .val (.int p1), .val (.int (8 : Int32)), .val (.long (q &&& (((1 : Int64) <<< ((16 : Int32) &&& 0x3f).toInt64) - (1 : Int64)))), .second, .val (.int (2 : Int32))] [(.int (own_by q (2 : Int32))), (.long (q &&& (((1 : Int64) <<< ((16 : Int32) &&& 0x3f).toInt64) - (1 : Int64))))])) _
    refine XS.sipush X0.here hx rfl (hb hby d2_18) ?_
    show Steps p.tables e below (s₁.setTop (mkF m 21 #[.val (.ref b), .val (.int p1), .val (.int (8 : Int32)), .val (.long (q &&& (((1 : Int64) <<< ((16 : Int32) &&& 0x3f).toInt64) - (1 : Int64)))), .second, .val (.int (2 : Int32))] [(.int (255 : Int32)), (.int (own_by q (2 : Int32))), (.long (q &&& (((1 : Int64) <<< ((16 : Int32) &&& 0x3f).toInt64) - (1 : Int64))))])) _
    refine XS.iand X0.here hx rfl (hb hby d2_21) rfl ?_
    show Steps p.tables e below (s₁.setTop (mkF m 22 #[.val (.ref b), .val (.int p1), .val (.int (8 : Int32)), .val (.long (q &&& (((1 : Int64) <<< ((16 : Int32) &&& 0x3f).toInt64) - (1 : Int64)))), .second, .val (.int (2 : Int32))] [(.int ((own_by q (2 : Int32)) &&& (255 : Int32))), (.long (q &&& (((1 : Int64) <<< ((16 : Int32) &&& 0x3f).toInt64) - (1 : Int64))))])) _
    refine XS.i2l X0.here hx rfl (hb hby d2_22) rfl ?_
    show Steps p.tables e below (s₁.setTop (mkF m 23 #[.val (.ref b), .val (.int p1), .val (.int (8 : Int32)), .val (.long (q &&& (((1 : Int64) <<< ((16 : Int32) &&& 0x3f).toInt64) - (1 : Int64)))), .second, .val (.int (2 : Int32))] [(.long ((own_by q (2 : Int32)) &&& (255 : Int32)).toInt64), (.long (q &&& (((1 : Int64) <<< ((16 : Int32) &&& 0x3f).toInt64) - (1 : Int64))))])) _
    refine XS.bipush X0.here hx rfl (hb hby d2_23) ?_
    show Steps p.tables e below (s₁.setTop (mkF m 25 #[.val (.ref b), .val (.int p1), .val (.int (8 : Int32)), .val (.long (q &&& (((1 : Int64) <<< ((16 : Int32) &&& 0x3f).toInt64) - (1 : Int64)))), .second, .val (.int (2 : Int32))] [(.int (8 : Int32)), (.long ((own_by q (2 : Int32)) &&& (255 : Int32)).toInt64), (.long (q &&& (((1 : Int64) <<< ((16 : Int32) &&& 0x3f).toInt64) - (1 : Int64))))])) _
    refine XS.iload X0.here hx rfl (hb hby d2_25) rfl ?_
    show Steps p.tables e below (s₁.setTop (mkF m 27 #[.val (.ref b), .val (.int p1), .val (.int (8 : Int32)), .val (.long (q &&& (((1 : Int64) <<< ((16 : Int32) &&& 0x3f).toInt64) - (1 : Int64)))), .second, .val (.int (2 : Int32))] [(.int (2 : Int32)), (.int (8 : Int32)), (.long ((own_by q (2 : Int32)) &&& (255 : Int32)).toInt64), (.long (q &&& (((1 : Int64) <<< ((16 : Int32) &&& 0x3f).toInt64) - (1 : Int64))))])) _
    refine XS.imul X0.here hx rfl (hb hby d2_27) rfl ?_
    show Steps p.tables e below (s₁.setTop (mkF m 28 #[.val (.ref b), .val (.int p1), .val (.int (8 : Int32)), .val (.long (q &&& (((1 : Int64) <<< ((16 : Int32) &&& 0x3f).toInt64) - (1 : Int64)))), .second, .val (.int (2 : Int32))] [(.int ((8 : Int32) * (2 : Int32))), (.long ((own_by q (2 : Int32)) &&& (255 : Int32)).toInt64), (.long (q &&& (((1 : Int64) <<< ((16 : Int32) &&& 0x3f).toInt64) - (1 : Int64))))])) _
    rw [show ((8 : Int32) * (2 : Int32)) = (16 : Int32) from (by decide : ((8 : Int32) * (2 : Int32)) = (16 : Int32))]
    show Steps p.tables e below (s₁.setTop (mkF m 28 #[.val (.ref b), .val (.int p1), .val (.int (8 : Int32)), .val (.long (q &&& (((1 : Int64) <<< ((16 : Int32) &&& 0x3f).toInt64) - (1 : Int64)))), .second, .val (.int (2 : Int32))] [(.int (16 : Int32)), (.long ((own_by q (2 : Int32)) &&& (255 : Int32)).toInt64), (.long (q &&& (((1 : Int64) <<< ((16 : Int32) &&& 0x3f).toInt64) - (1 : Int64))))])) _
    refine XS.lshl X0.here hx rfl (hb hby d2_28) rfl ?_
    show Steps p.tables e below (s₁.setTop (mkF m 29 #[.val (.ref b), .val (.int p1), .val (.int (8 : Int32)), .val (.long (q &&& (((1 : Int64) <<< ((16 : Int32) &&& 0x3f).toInt64) - (1 : Int64)))), .second, .val (.int (2 : Int32))] [(.long (((own_by q (2 : Int32)) &&& (255 : Int32)).toInt64 <<< ((16 : Int32) &&& 0x3f).toInt64)), (.long (q &&& (((1 : Int64) <<< ((16 : Int32) &&& 0x3f).toInt64) - (1 : Int64))))])) _
    refine XS.lor X0.here hx rfl (hb hby d2_29) rfl ?_
    show Steps p.tables e below (s₁.setTop (mkF m 30 #[.val (.ref b), .val (.int p1), .val (.int (8 : Int32)), .val (.long (q &&& (((1 : Int64) <<< ((16 : Int32) &&& 0x3f).toInt64) - (1 : Int64)))), .second, .val (.int (2 : Int32))] [(.long ((q &&& (((1 : Int64) <<< ((16 : Int32) &&& 0x3f).toInt64) - (1 : Int64))) ||| (((own_by q (2 : Int32)) &&& (255 : Int32)).toInt64 <<< ((16 : Int32) &&& 0x3f).toInt64)))])) _
    rw [show ((q &&& (((1 : Int64) <<< ((16 : Int32) &&& 0x3f).toInt64) - (1 : Int64))) ||| (((own_by q (2 : Int32)) &&& (255 : Int32)).toInt64 <<< ((16 : Int32) &&& 0x3f).toInt64)) = (q &&& (((1 : Int64) <<< ((24 : Int32) &&& 0x3f).toInt64) - (1 : Int64))) from own_step_2 q]
    show Steps p.tables e below (s₁.setTop (mkF m 30 #[.val (.ref b), .val (.int p1), .val (.int (8 : Int32)), .val (.long (q &&& (((1 : Int64) <<< ((16 : Int32) &&& 0x3f).toInt64) - (1 : Int64)))), .second, .val (.int (2 : Int32))] [(.long (q &&& (((1 : Int64) <<< ((24 : Int32) &&& 0x3f).toInt64) - (1 : Int64))))])) _
    refine XS.lstoreN X0.here hx rfl (hb hby d2_30) rfl (l' := #[.val (.ref b), .val (.int p1), .val (.int (8 : Int32)), .val (.long (q &&& (((1 : Int64) <<< ((24 : Int32) &&& 0x3f).toInt64) - (1 : Int64)))), .second, .val (.int (2 : Int32))]) rfl ?_
    show Steps p.tables e below (s₁.setTop (mkF m 31 #[.val (.ref b), .val (.int p1), .val (.int (8 : Int32)), .val (.long (q &&& (((1 : Int64) <<< ((24 : Int32) &&& 0x3f).toInt64) - (1 : Int64)))), .second, .val (.int (2 : Int32))] [])) _
    refine XS.iinc X0.here hx rfl (hb hby d2_31) rfl (l' := #[.val (.ref b), .val (.int p1), .val (.int (8 : Int32)), .val (.long (q &&& (((1 : Int64) <<< ((24 : Int32) &&& 0x3f).toInt64) - (1 : Int64)))), .second, .val (.int ((2 : Int32) + (1 : Int32)))]) rfl ?_
    show Steps p.tables e below (s₁.setTop (mkF m 34 #[.val (.ref b), .val (.int p1), .val (.int (8 : Int32)), .val (.long (q &&& (((1 : Int64) <<< ((24 : Int32) &&& 0x3f).toInt64) - (1 : Int64)))), .second, .val (.int ((2 : Int32) + (1 : Int32)))] [])) _
    rw [show ((2 : Int32) + (1 : Int32)) = (3 : Int32) from (by decide : ((2 : Int32) + (1 : Int32)) = (3 : Int32))]
    show Steps p.tables e below (s₁.setTop (mkF m 34 #[.val (.ref b), .val (.int p1), .val (.int (8 : Int32)), .val (.long (q &&& (((1 : Int64) <<< ((24 : Int32) &&& 0x3f).toInt64) - (1 : Int64)))), .second, .val (.int (3 : Int32))] [])) _
    refine XS.goto X0.here hx rfl (pc0 := 34) (pc' := 5) rfl (hb hby d2_34) (by decide) (by decide) ?_
    show Steps p.tables e below (s₁.setTop (mkF m 5 #[.val (.ref b), .val (.int p1), .val (.int (8 : Int32)), .val (.long (q &&& (((1 : Int64) <<< ((24 : Int32) &&& 0x3f).toInt64) - (1 : Int64)))), .second, .val (.int (3 : Int32))] [])) _
    refine XS.iload X0.here hx rfl (hb hby d2_5) rfl ?_
    show Steps p.tables e below (s₁.setTop (mkF m 7 #[.val (.ref b), .val (.int p1), .val (.int (8 : Int32)), .val (.long (q &&& (((1 : Int64) <<< ((24 : Int32) &&& 0x3f).toInt64) - (1 : Int64)))), .second, .val (.int (3 : Int32))] [(.int (3 : Int32))])) _
    refine XS.iloadN X0.here hx rfl (hb hby d2_7) rfl ?_
    show Steps p.tables e below (s₁.setTop (mkF m 8 #[.val (.ref b), .val (.int p1), .val (.int (8 : Int32)), .val (.long (q &&& (((1 : Int64) <<< ((24 : Int32) &&& 0x3f).toInt64) - (1 : Int64)))), .second, .val (.int (3 : Int32))] [(.int (8 : Int32)), (.int (3 : Int32))])) _
    refine XS.icmpNo X0.here hx rfl (hb hby d2_8) rfl (by decide) ?_
    show Steps p.tables e below (s₁.setTop (mkF m 11 #[.val (.ref b), .val (.int p1), .val (.int (8 : Int32)), .val (.long (q &&& (((1 : Int64) <<< ((24 : Int32) &&& 0x3f).toInt64) - (1 : Int64)))), .second, .val (.int (3 : Int32))] [])) _
    refine XS.lloadN X0.here hx rfl (hb hby d2_11) rfl ?_
    show Steps p.tables e below (s₁.setTop (mkF m 12 #[.val (.ref b), .val (.int p1), .val (.int (8 : Int32)), .val (.long (q &&& (((1 : Int64) <<< ((24 : Int32) &&& 0x3f).toInt64) - (1 : Int64)))), .second, .val (.int (3 : Int32))] [(.long (q &&& (((1 : Int64) <<< ((24 : Int32) &&& 0x3f).toInt64) - (1 : Int64))))])) _
    refine XS.aloadN X0.here hx rfl (hb hby d2_12) rfl rfl ?_
    show Steps p.tables e below (s₁.setTop (mkF m 13 #[.val (.ref b), .val (.int p1), .val (.int (8 : Int32)), .val (.long (q &&& (((1 : Int64) <<< ((24 : Int32) &&& 0x3f).toInt64) - (1 : Int64)))), .second, .val (.int (3 : Int32))] [(.ref b), (.long (q &&& (((1 : Int64) <<< ((24 : Int32) &&& 0x3f).toInt64) - (1 : Int64))))])) _
    refine XS.iloadN X0.here hx rfl (hb hby d2_13) rfl ?_
    show Steps p.tables e below (s₁.setTop (mkF m 14 #[.val (.ref b), .val (.int p1), .val (.int (8 : Int32)), .val (.long (q &&& (((1 : Int64) <<< ((24 : Int32) &&& 0x3f).toInt64) - (1 : Int64)))), .second, .val (.int (3 : Int32))] [(.int p1), (.ref b), (.long (q &&& (((1 : Int64) <<< ((24 : Int32) &&& 0x3f).toInt64) - (1 : Int64))))])) _
    refine XS.iload X0.here hx rfl (hb hby d2_14) rfl ?_
    show Steps p.tables e below (s₁.setTop (mkF m 16 #[.val (.ref b), .val (.int p1), .val (.int (8 : Int32)), .val (.long (q &&& (((1 : Int64) <<< ((24 : Int32) &&& 0x3f).toInt64) - (1 : Int64)))), .second, .val (.int (3 : Int32))] [(.int (3 : Int32)), (.int p1), (.ref b), (.long (q &&& (((1 : Int64) <<< ((24 : Int32) &&& 0x3f).toInt64) - (1 : Int64))))])) _
    refine XS.iadd X0.here hx rfl (hb hby d2_16) rfl ?_
    show Steps p.tables e below (s₁.setTop (mkF m 17 #[.val (.ref b), .val (.int p1), .val (.int (8 : Int32)), .val (.long (q &&& (((1 : Int64) <<< ((24 : Int32) &&& 0x3f).toInt64) - (1 : Int64)))), .second, .val (.int (3 : Int32))] [(.int (p1 + (3 : Int32))), (.ref b), (.long (q &&& (((1 : Int64) <<< ((24 : Int32) &&& 0x3f).toInt64) - (1 : Int64))))])) _
    exact kq)
  obtain ⟨cl110, Ar110, q110, S110, M110, H110, Gf110⟩ := id A
  have hi111 : ¬ ((p1 + (3 : Int32)) < 0 ∨ cl110.slots.size ≤ ((p1 + (3 : Int32))).toNatClampNeg) := (inb_of S110 (hat (3 : Int32) (Or.inr (Or.inr (Or.inr (Or.inl rfl))))).1)
  have G112 : Go p e below A0 (s₁.setTop (mkF m 17 #[.val (.ref b), .val (.int p1), .val (.int (8 : Int32)), .val (.long (q &&& (((1 : Int64) <<< ((32 : Int32) &&& 0x3f).toInt64) - (1 : Int64)))), .second, .val (.int (4 : Int32))] [(.int (p1 + (4 : Int32))), (.ref b), (.long (q &&& (((1 : Int64) <<< ((32 : Int32) &&& 0x3f).toInt64) - (1 : Int64))))])) := fun tq kq => G109 tq (by
    refine X0.baloadBytes hx (j := (p1 + (3 : Int32))) (v := (.int (own_by q (3 : Int32)))) (by rw [e0]; exact Ar110.1) (State.isArrayOf_alike hZ.alike Ar110.2.1) Ar110.2.2 hi111 (H110.at hi111 (hat (3 : Int32) (Or.inr (Or.inr (Or.inr (Or.inl rfl))))).2) (g := (mkF m 17 #[.val (.ref b), .val (.int p1), .val (.int (8 : Int32)), .val (.long (q &&& (((1 : Int64) <<< ((24 : Int32) &&& 0x3f).toInt64) - (1 : Int64)))), .second, .val (.int (3 : Int32))] [(.int (p1 + (3 : Int32))), (.ref b), (.long (q &&& (((1 : Int64) <<< ((24 : Int32) &&& 0x3f).toInt64) - (1 : Int64))))])) rfl rfl (hb hby d2_17) _ ?_
    show Steps p.tables e below (s₁.setTop (mkF m 18 #[.val (.ref b), .val (.int p1), .val (.int (8 : Int32)), .val (.long (q &&& (((1 : Int64) <<< ((24 : Int32) &&& 0x3f).toInt64) - (1 : Int64)))), .second, .val (.int (3 : Int32))] [(.int (own_by q (3 : Int32))), (.long (q &&& (((1 : Int64) <<< ((24 : Int32) &&& 0x3f).toInt64) - (1 : Int64))))])) _
    refine XS.sipush X0.here hx rfl (hb hby d2_18) ?_
    show Steps p.tables e below (s₁.setTop (mkF m 21 #[.val (.ref b), .val (.int p1), .val (.int (8 : Int32)), .val (.long (q &&& (((1 : Int64) <<< ((24 : Int32) &&& 0x3f).toInt64) - (1 : Int64)))), .second, .val (.int (3 : Int32))] [(.int (255 : Int32)), (.int (own_by q (3 : Int32))), (.long (q &&& (((1 : Int64) <<< ((24 : Int32) &&& 0x3f).toInt64) - (1 : Int64))))])) _
    refine XS.iand X0.here hx rfl (hb hby d2_21) rfl ?_
    show Steps p.tables e below (s₁.setTop (mkF m 22 #[.val (.ref b), .val (.int p1), .val (.int (8 : Int32)), .val (.long (q &&& (((1 : Int64) <<< ((24 : Int32) &&& 0x3f).toInt64) - (1 : Int64)))), .second, .val (.int (3 : Int32))] [(.int ((own_by q (3 : Int32)) &&& (255 : Int32))), (.long (q &&& (((1 : Int64) <<< ((24 : Int32) &&& 0x3f).toInt64) - (1 : Int64))))])) _
    refine XS.i2l X0.here hx rfl (hb hby d2_22) rfl ?_
    show Steps p.tables e below (s₁.setTop (mkF m 23 #[.val (.ref b), .val (.int p1), .val (.int (8 : Int32)), .val (.long (q &&& (((1 : Int64) <<< ((24 : Int32) &&& 0x3f).toInt64) - (1 : Int64)))), .second, .val (.int (3 : Int32))] [(.long ((own_by q (3 : Int32)) &&& (255 : Int32)).toInt64), (.long (q &&& (((1 : Int64) <<< ((24 : Int32) &&& 0x3f).toInt64) - (1 : Int64))))])) _
    refine XS.bipush X0.here hx rfl (hb hby d2_23) ?_
    show Steps p.tables e below (s₁.setTop (mkF m 25 #[.val (.ref b), .val (.int p1), .val (.int (8 : Int32)), .val (.long (q &&& (((1 : Int64) <<< ((24 : Int32) &&& 0x3f).toInt64) - (1 : Int64)))), .second, .val (.int (3 : Int32))] [(.int (8 : Int32)), (.long ((own_by q (3 : Int32)) &&& (255 : Int32)).toInt64), (.long (q &&& (((1 : Int64) <<< ((24 : Int32) &&& 0x3f).toInt64) - (1 : Int64))))])) _
    refine XS.iload X0.here hx rfl (hb hby d2_25) rfl ?_
    show Steps p.tables e below (s₁.setTop (mkF m 27 #[.val (.ref b), .val (.int p1), .val (.int (8 : Int32)), .val (.long (q &&& (((1 : Int64) <<< ((24 : Int32) &&& 0x3f).toInt64) - (1 : Int64)))), .second, .val (.int (3 : Int32))] [(.int (3 : Int32)), (.int (8 : Int32)), (.long ((own_by q (3 : Int32)) &&& (255 : Int32)).toInt64), (.long (q &&& (((1 : Int64) <<< ((24 : Int32) &&& 0x3f).toInt64) - (1 : Int64))))])) _
    refine XS.imul X0.here hx rfl (hb hby d2_27) rfl ?_
    show Steps p.tables e below (s₁.setTop (mkF m 28 #[.val (.ref b), .val (.int p1), .val (.int (8 : Int32)), .val (.long (q &&& (((1 : Int64) <<< ((24 : Int32) &&& 0x3f).toInt64) - (1 : Int64)))), .second, .val (.int (3 : Int32))] [(.int ((8 : Int32) * (3 : Int32))), (.long ((own_by q (3 : Int32)) &&& (255 : Int32)).toInt64), (.long (q &&& (((1 : Int64) <<< ((24 : Int32) &&& 0x3f).toInt64) - (1 : Int64))))])) _
    rw [show ((8 : Int32) * (3 : Int32)) = (24 : Int32) from (by decide : ((8 : Int32) * (3 : Int32)) = (24 : Int32))]
    show Steps p.tables e below (s₁.setTop (mkF m 28 #[.val (.ref b), .val (.int p1), .val (.int (8 : Int32)), .val (.long (q &&& (((1 : Int64) <<< ((24 : Int32) &&& 0x3f).toInt64) - (1 : Int64)))), .second, .val (.int (3 : Int32))] [(.int (24 : Int32)), (.long ((own_by q (3 : Int32)) &&& (255 : Int32)).toInt64), (.long (q &&& (((1 : Int64) <<< ((24 : Int32) &&& 0x3f).toInt64) - (1 : Int64))))])) _
    refine XS.lshl X0.here hx rfl (hb hby d2_28) rfl ?_
    show Steps p.tables e below (s₁.setTop (mkF m 29 #[.val (.ref b), .val (.int p1), .val (.int (8 : Int32)), .val (.long (q &&& (((1 : Int64) <<< ((24 : Int32) &&& 0x3f).toInt64) - (1 : Int64)))), .second, .val (.int (3 : Int32))] [(.long (((own_by q (3 : Int32)) &&& (255 : Int32)).toInt64 <<< ((24 : Int32) &&& 0x3f).toInt64)), (.long (q &&& (((1 : Int64) <<< ((24 : Int32) &&& 0x3f).toInt64) - (1 : Int64))))])) _
    refine XS.lor X0.here hx rfl (hb hby d2_29) rfl ?_
    show Steps p.tables e below (s₁.setTop (mkF m 30 #[.val (.ref b), .val (.int p1), .val (.int (8 : Int32)), .val (.long (q &&& (((1 : Int64) <<< ((24 : Int32) &&& 0x3f).toInt64) - (1 : Int64)))), .second, .val (.int (3 : Int32))] [(.long ((q &&& (((1 : Int64) <<< ((24 : Int32) &&& 0x3f).toInt64) - (1 : Int64))) ||| (((own_by q (3 : Int32)) &&& (255 : Int32)).toInt64 <<< ((24 : Int32) &&& 0x3f).toInt64)))])) _
    rw [show ((q &&& (((1 : Int64) <<< ((24 : Int32) &&& 0x3f).toInt64) - (1 : Int64))) ||| (((own_by q (3 : Int32)) &&& (255 : Int32)).toInt64 <<< ((24 : Int32) &&& 0x3f).toInt64)) = (q &&& (((1 : Int64) <<< ((32 : Int32) &&& 0x3f).toInt64) - (1 : Int64))) from own_step_3 q]
    show Steps p.tables e below (s₁.setTop (mkF m 30 #[.val (.ref b), .val (.int p1), .val (.int (8 : Int32)), .val (.long (q &&& (((1 : Int64) <<< ((24 : Int32) &&& 0x3f).toInt64) - (1 : Int64)))), .second, .val (.int (3 : Int32))] [(.long (q &&& (((1 : Int64) <<< ((32 : Int32) &&& 0x3f).toInt64) - (1 : Int64))))])) _
    refine XS.lstoreN X0.here hx rfl (hb hby d2_30) rfl (l' := #[.val (.ref b), .val (.int p1), .val (.int (8 : Int32)), .val (.long (q &&& (((1 : Int64) <<< ((32 : Int32) &&& 0x3f).toInt64) - (1 : Int64)))), .second, .val (.int (3 : Int32))]) rfl ?_
    show Steps p.tables e below (s₁.setTop (mkF m 31 #[.val (.ref b), .val (.int p1), .val (.int (8 : Int32)), .val (.long (q &&& (((1 : Int64) <<< ((32 : Int32) &&& 0x3f).toInt64) - (1 : Int64)))), .second, .val (.int (3 : Int32))] [])) _
    refine XS.iinc X0.here hx rfl (hb hby d2_31) rfl (l' := #[.val (.ref b), .val (.int p1), .val (.int (8 : Int32)), .val (.long (q &&& (((1 : Int64) <<< ((32 : Int32) &&& 0x3f).toInt64) - (1 : Int64)))), .second, .val (.int ((3 : Int32) + (1 : Int32)))]) rfl ?_
    show Steps p.tables e below (s₁.setTop (mkF m 34 #[.val (.ref b), .val (.int p1), .val (.int (8 : Int32)), .val (.long (q &&& (((1 : Int64) <<< ((32 : Int32) &&& 0x3f).toInt64) - (1 : Int64)))), .second, .val (.int ((3 : Int32) + (1 : Int32)))] [])) _
    rw [show ((3 : Int32) + (1 : Int32)) = (4 : Int32) from (by decide : ((3 : Int32) + (1 : Int32)) = (4 : Int32))]
    show Steps p.tables e below (s₁.setTop (mkF m 34 #[.val (.ref b), .val (.int p1), .val (.int (8 : Int32)), .val (.long (q &&& (((1 : Int64) <<< ((32 : Int32) &&& 0x3f).toInt64) - (1 : Int64)))), .second, .val (.int (4 : Int32))] [])) _
    refine XS.goto X0.here hx rfl (pc0 := 34) (pc' := 5) rfl (hb hby d2_34) (by decide) (by decide) ?_
    show Steps p.tables e below (s₁.setTop (mkF m 5 #[.val (.ref b), .val (.int p1), .val (.int (8 : Int32)), .val (.long (q &&& (((1 : Int64) <<< ((32 : Int32) &&& 0x3f).toInt64) - (1 : Int64)))), .second, .val (.int (4 : Int32))] [])) _
    refine XS.iload X0.here hx rfl (hb hby d2_5) rfl ?_
    show Steps p.tables e below (s₁.setTop (mkF m 7 #[.val (.ref b), .val (.int p1), .val (.int (8 : Int32)), .val (.long (q &&& (((1 : Int64) <<< ((32 : Int32) &&& 0x3f).toInt64) - (1 : Int64)))), .second, .val (.int (4 : Int32))] [(.int (4 : Int32))])) _
    refine XS.iloadN X0.here hx rfl (hb hby d2_7) rfl ?_
    show Steps p.tables e below (s₁.setTop (mkF m 8 #[.val (.ref b), .val (.int p1), .val (.int (8 : Int32)), .val (.long (q &&& (((1 : Int64) <<< ((32 : Int32) &&& 0x3f).toInt64) - (1 : Int64)))), .second, .val (.int (4 : Int32))] [(.int (8 : Int32)), (.int (4 : Int32))])) _
    refine XS.icmpNo X0.here hx rfl (hb hby d2_8) rfl (by decide) ?_
    show Steps p.tables e below (s₁.setTop (mkF m 11 #[.val (.ref b), .val (.int p1), .val (.int (8 : Int32)), .val (.long (q &&& (((1 : Int64) <<< ((32 : Int32) &&& 0x3f).toInt64) - (1 : Int64)))), .second, .val (.int (4 : Int32))] [])) _
    refine XS.lloadN X0.here hx rfl (hb hby d2_11) rfl ?_
    show Steps p.tables e below (s₁.setTop (mkF m 12 #[.val (.ref b), .val (.int p1), .val (.int (8 : Int32)), .val (.long (q &&& (((1 : Int64) <<< ((32 : Int32) &&& 0x3f).toInt64) - (1 : Int64)))), .second, .val (.int (4 : Int32))] [(.long (q &&& (((1 : Int64) <<< ((32 : Int32) &&& 0x3f).toInt64) - (1 : Int64))))])) _
    refine XS.aloadN X0.here hx rfl (hb hby d2_12) rfl rfl ?_
    show Steps p.tables e below (s₁.setTop (mkF m 13 #[.val (.ref b), .val (.int p1), .val (.int (8 : Int32)), .val (.long (q &&& (((1 : Int64) <<< ((32 : Int32) &&& 0x3f).toInt64) - (1 : Int64)))), .second, .val (.int (4 : Int32))] [(.ref b), (.long (q &&& (((1 : Int64) <<< ((32 : Int32) &&& 0x3f).toInt64) - (1 : Int64))))])) _
    refine XS.iloadN X0.here hx rfl (hb hby d2_13) rfl ?_
    show Steps p.tables e below (s₁.setTop (mkF m 14 #[.val (.ref b), .val (.int p1), .val (.int (8 : Int32)), .val (.long (q &&& (((1 : Int64) <<< ((32 : Int32) &&& 0x3f).toInt64) - (1 : Int64)))), .second, .val (.int (4 : Int32))] [(.int p1), (.ref b), (.long (q &&& (((1 : Int64) <<< ((32 : Int32) &&& 0x3f).toInt64) - (1 : Int64))))])) _
    refine XS.iload X0.here hx rfl (hb hby d2_14) rfl ?_
    show Steps p.tables e below (s₁.setTop (mkF m 16 #[.val (.ref b), .val (.int p1), .val (.int (8 : Int32)), .val (.long (q &&& (((1 : Int64) <<< ((32 : Int32) &&& 0x3f).toInt64) - (1 : Int64)))), .second, .val (.int (4 : Int32))] [(.int (4 : Int32)), (.int p1), (.ref b), (.long (q &&& (((1 : Int64) <<< ((32 : Int32) &&& 0x3f).toInt64) - (1 : Int64))))])) _
    refine XS.iadd X0.here hx rfl (hb hby d2_16) rfl ?_
    show Steps p.tables e below (s₁.setTop (mkF m 17 #[.val (.ref b), .val (.int p1), .val (.int (8 : Int32)), .val (.long (q &&& (((1 : Int64) <<< ((32 : Int32) &&& 0x3f).toInt64) - (1 : Int64)))), .second, .val (.int (4 : Int32))] [(.int (p1 + (4 : Int32))), (.ref b), (.long (q &&& (((1 : Int64) <<< ((32 : Int32) &&& 0x3f).toInt64) - (1 : Int64))))])) _
    exact kq)
  obtain ⟨cl113, Ar113, q113, S113, M113, H113, Gf113⟩ := id A
  have hi114 : ¬ ((p1 + (4 : Int32)) < 0 ∨ cl113.slots.size ≤ ((p1 + (4 : Int32))).toNatClampNeg) := (inb_of S113 (hat (4 : Int32) (Or.inr (Or.inr (Or.inr (Or.inr (Or.inl rfl)))))).1)
  have G115 : Go p e below A0 (s₁.setTop (mkF m 17 #[.val (.ref b), .val (.int p1), .val (.int (8 : Int32)), .val (.long (q &&& (((1 : Int64) <<< ((40 : Int32) &&& 0x3f).toInt64) - (1 : Int64)))), .second, .val (.int (5 : Int32))] [(.int (p1 + (5 : Int32))), (.ref b), (.long (q &&& (((1 : Int64) <<< ((40 : Int32) &&& 0x3f).toInt64) - (1 : Int64))))])) := fun tq kq => G112 tq (by
    refine X0.baloadBytes hx (j := (p1 + (4 : Int32))) (v := (.int (own_by q (4 : Int32)))) (by rw [e0]; exact Ar113.1) (State.isArrayOf_alike hZ.alike Ar113.2.1) Ar113.2.2 hi114 (H113.at hi114 (hat (4 : Int32) (Or.inr (Or.inr (Or.inr (Or.inr (Or.inl rfl)))))).2) (g := (mkF m 17 #[.val (.ref b), .val (.int p1), .val (.int (8 : Int32)), .val (.long (q &&& (((1 : Int64) <<< ((32 : Int32) &&& 0x3f).toInt64) - (1 : Int64)))), .second, .val (.int (4 : Int32))] [(.int (p1 + (4 : Int32))), (.ref b), (.long (q &&& (((1 : Int64) <<< ((32 : Int32) &&& 0x3f).toInt64) - (1 : Int64))))])) rfl rfl (hb hby d2_17) _ ?_
    show Steps p.tables e below (s₁.setTop (mkF m 18 #[.val (.ref b), .val (.int p1), .val (.int (8 : Int32)), .val (.long (q &&& (((1 : Int64) <<< ((32 : Int32) &&& 0x3f).toInt64) - (1 : Int64)))), .second, .val (.int (4 : Int32))] [(.int (own_by q (4 : Int32))), (.long (q &&& (((1 : Int64) <<< ((32 : Int32) &&& 0x3f).toInt64) - (1 : Int64))))])) _
    refine XS.sipush X0.here hx rfl (hb hby d2_18) ?_
    show Steps p.tables e below (s₁.setTop (mkF m 21 #[.val (.ref b), .val (.int p1), .val (.int (8 : Int32)), .val (.long (q &&& (((1 : Int64) <<< ((32 : Int32) &&& 0x3f).toInt64) - (1 : Int64)))), .second, .val (.int (4 : Int32))] [(.int (255 : Int32)), (.int (own_by q (4 : Int32))), (.long (q &&& (((1 : Int64) <<< ((32 : Int32) &&& 0x3f).toInt64) - (1 : Int64))))])) _
    refine XS.iand X0.here hx rfl (hb hby d2_21) rfl ?_
    show Steps p.tables e below (s₁.setTop (mkF m 22 #[.val (.ref b), .val (.int p1), .val (.int (8 : Int32)), .val (.long (q &&& (((1 : Int64) <<< ((32 : Int32) &&& 0x3f).toInt64) - (1 : Int64)))), .second, .val (.int (4 : Int32))] [(.int ((own_by q (4 : Int32)) &&& (255 : Int32))), (.long (q &&& (((1 : Int64) <<< ((32 : Int32) &&& 0x3f).toInt64) - (1 : Int64))))])) _
    refine XS.i2l X0.here hx rfl (hb hby d2_22) rfl ?_
    show Steps p.tables e below (s₁.setTop (mkF m 23 #[.val (.ref b), .val (.int p1), .val (.int (8 : Int32)), .val (.long (q &&& (((1 : Int64) <<< ((32 : Int32) &&& 0x3f).toInt64) - (1 : Int64)))), .second, .val (.int (4 : Int32))] [(.long ((own_by q (4 : Int32)) &&& (255 : Int32)).toInt64), (.long (q &&& (((1 : Int64) <<< ((32 : Int32) &&& 0x3f).toInt64) - (1 : Int64))))])) _
    refine XS.bipush X0.here hx rfl (hb hby d2_23) ?_
    show Steps p.tables e below (s₁.setTop (mkF m 25 #[.val (.ref b), .val (.int p1), .val (.int (8 : Int32)), .val (.long (q &&& (((1 : Int64) <<< ((32 : Int32) &&& 0x3f).toInt64) - (1 : Int64)))), .second, .val (.int (4 : Int32))] [(.int (8 : Int32)), (.long ((own_by q (4 : Int32)) &&& (255 : Int32)).toInt64), (.long (q &&& (((1 : Int64) <<< ((32 : Int32) &&& 0x3f).toInt64) - (1 : Int64))))])) _
    refine XS.iload X0.here hx rfl (hb hby d2_25) rfl ?_
    show Steps p.tables e below (s₁.setTop (mkF m 27 #[.val (.ref b), .val (.int p1), .val (.int (8 : Int32)), .val (.long (q &&& (((1 : Int64) <<< ((32 : Int32) &&& 0x3f).toInt64) - (1 : Int64)))), .second, .val (.int (4 : Int32))] [(.int (4 : Int32)), (.int (8 : Int32)), (.long ((own_by q (4 : Int32)) &&& (255 : Int32)).toInt64), (.long (q &&& (((1 : Int64) <<< ((32 : Int32) &&& 0x3f).toInt64) - (1 : Int64))))])) _
    refine XS.imul X0.here hx rfl (hb hby d2_27) rfl ?_
    show Steps p.tables e below (s₁.setTop (mkF m 28 #[.val (.ref b), .val (.int p1), .val (.int (8 : Int32)), .val (.long (q &&& (((1 : Int64) <<< ((32 : Int32) &&& 0x3f).toInt64) - (1 : Int64)))), .second, .val (.int (4 : Int32))] [(.int ((8 : Int32) * (4 : Int32))), (.long ((own_by q (4 : Int32)) &&& (255 : Int32)).toInt64), (.long (q &&& (((1 : Int64) <<< ((32 : Int32) &&& 0x3f).toInt64) - (1 : Int64))))])) _
    rw [show ((8 : Int32) * (4 : Int32)) = (32 : Int32) from (by decide : ((8 : Int32) * (4 : Int32)) = (32 : Int32))]
    show Steps p.tables e below (s₁.setTop (mkF m 28 #[.val (.ref b), .val (.int p1), .val (.int (8 : Int32)), .val (.long (q &&& (((1 : Int64) <<< ((32 : Int32) &&& 0x3f).toInt64) - (1 : Int64)))), .second, .val (.int (4 : Int32))] [(.int (32 : Int32)), (.long ((own_by q (4 : Int32)) &&& (255 : Int32)).toInt64), (.long (q &&& (((1 : Int64) <<< ((32 : Int32) &&& 0x3f).toInt64) - (1 : Int64))))])) _
    refine XS.lshl X0.here hx rfl (hb hby d2_28) rfl ?_
    show Steps p.tables e below (s₁.setTop (mkF m 29 #[.val (.ref b), .val (.int p1), .val (.int (8 : Int32)), .val (.long (q &&& (((1 : Int64) <<< ((32 : Int32) &&& 0x3f).toInt64) - (1 : Int64)))), .second, .val (.int (4 : Int32))] [(.long (((own_by q (4 : Int32)) &&& (255 : Int32)).toInt64 <<< ((32 : Int32) &&& 0x3f).toInt64)), (.long (q &&& (((1 : Int64) <<< ((32 : Int32) &&& 0x3f).toInt64) - (1 : Int64))))])) _
    refine XS.lor X0.here hx rfl (hb hby d2_29) rfl ?_
    show Steps p.tables e below (s₁.setTop (mkF m 30 #[.val (.ref b), .val (.int p1), .val (.int (8 : Int32)), .val (.long (q &&& (((1 : Int64) <<< ((32 : Int32) &&& 0x3f).toInt64) - (1 : Int64)))), .second, .val (.int (4 : Int32))] [(.long ((q &&& (((1 : Int64) <<< ((32 : Int32) &&& 0x3f).toInt64) - (1 : Int64))) ||| (((own_by q (4 : Int32)) &&& (255 : Int32)).toInt64 <<< ((32 : Int32) &&& 0x3f).toInt64)))])) _
    rw [show ((q &&& (((1 : Int64) <<< ((32 : Int32) &&& 0x3f).toInt64) - (1 : Int64))) ||| (((own_by q (4 : Int32)) &&& (255 : Int32)).toInt64 <<< ((32 : Int32) &&& 0x3f).toInt64)) = (q &&& (((1 : Int64) <<< ((40 : Int32) &&& 0x3f).toInt64) - (1 : Int64))) from own_step_4 q]
    show Steps p.tables e below (s₁.setTop (mkF m 30 #[.val (.ref b), .val (.int p1), .val (.int (8 : Int32)), .val (.long (q &&& (((1 : Int64) <<< ((32 : Int32) &&& 0x3f).toInt64) - (1 : Int64)))), .second, .val (.int (4 : Int32))] [(.long (q &&& (((1 : Int64) <<< ((40 : Int32) &&& 0x3f).toInt64) - (1 : Int64))))])) _
    refine XS.lstoreN X0.here hx rfl (hb hby d2_30) rfl (l' := #[.val (.ref b), .val (.int p1), .val (.int (8 : Int32)), .val (.long (q &&& (((1 : Int64) <<< ((40 : Int32) &&& 0x3f).toInt64) - (1 : Int64)))), .second, .val (.int (4 : Int32))]) rfl ?_
    show Steps p.tables e below (s₁.setTop (mkF m 31 #[.val (.ref b), .val (.int p1), .val (.int (8 : Int32)), .val (.long (q &&& (((1 : Int64) <<< ((40 : Int32) &&& 0x3f).toInt64) - (1 : Int64)))), .second, .val (.int (4 : Int32))] [])) _
    refine XS.iinc X0.here hx rfl (hb hby d2_31) rfl (l' := #[.val (.ref b), .val (.int p1), .val (.int (8 : Int32)), .val (.long (q &&& (((1 : Int64) <<< ((40 : Int32) &&& 0x3f).toInt64) - (1 : Int64)))), .second, .val (.int ((4 : Int32) + (1 : Int32)))]) rfl ?_
    show Steps p.tables e below (s₁.setTop (mkF m 34 #[.val (.ref b), .val (.int p1), .val (.int (8 : Int32)), .val (.long (q &&& (((1 : Int64) <<< ((40 : Int32) &&& 0x3f).toInt64) - (1 : Int64)))), .second, .val (.int ((4 : Int32) + (1 : Int32)))] [])) _
    rw [show ((4 : Int32) + (1 : Int32)) = (5 : Int32) from (by decide : ((4 : Int32) + (1 : Int32)) = (5 : Int32))]
    show Steps p.tables e below (s₁.setTop (mkF m 34 #[.val (.ref b), .val (.int p1), .val (.int (8 : Int32)), .val (.long (q &&& (((1 : Int64) <<< ((40 : Int32) &&& 0x3f).toInt64) - (1 : Int64)))), .second, .val (.int (5 : Int32))] [])) _
    refine XS.goto X0.here hx rfl (pc0 := 34) (pc' := 5) rfl (hb hby d2_34) (by decide) (by decide) ?_
    show Steps p.tables e below (s₁.setTop (mkF m 5 #[.val (.ref b), .val (.int p1), .val (.int (8 : Int32)), .val (.long (q &&& (((1 : Int64) <<< ((40 : Int32) &&& 0x3f).toInt64) - (1 : Int64)))), .second, .val (.int (5 : Int32))] [])) _
    refine XS.iload X0.here hx rfl (hb hby d2_5) rfl ?_
    show Steps p.tables e below (s₁.setTop (mkF m 7 #[.val (.ref b), .val (.int p1), .val (.int (8 : Int32)), .val (.long (q &&& (((1 : Int64) <<< ((40 : Int32) &&& 0x3f).toInt64) - (1 : Int64)))), .second, .val (.int (5 : Int32))] [(.int (5 : Int32))])) _
    refine XS.iloadN X0.here hx rfl (hb hby d2_7) rfl ?_
    show Steps p.tables e below (s₁.setTop (mkF m 8 #[.val (.ref b), .val (.int p1), .val (.int (8 : Int32)), .val (.long (q &&& (((1 : Int64) <<< ((40 : Int32) &&& 0x3f).toInt64) - (1 : Int64)))), .second, .val (.int (5 : Int32))] [(.int (8 : Int32)), (.int (5 : Int32))])) _
    refine XS.icmpNo X0.here hx rfl (hb hby d2_8) rfl (by decide) ?_
    show Steps p.tables e below (s₁.setTop (mkF m 11 #[.val (.ref b), .val (.int p1), .val (.int (8 : Int32)), .val (.long (q &&& (((1 : Int64) <<< ((40 : Int32) &&& 0x3f).toInt64) - (1 : Int64)))), .second, .val (.int (5 : Int32))] [])) _
    refine XS.lloadN X0.here hx rfl (hb hby d2_11) rfl ?_
    show Steps p.tables e below (s₁.setTop (mkF m 12 #[.val (.ref b), .val (.int p1), .val (.int (8 : Int32)), .val (.long (q &&& (((1 : Int64) <<< ((40 : Int32) &&& 0x3f).toInt64) - (1 : Int64)))), .second, .val (.int (5 : Int32))] [(.long (q &&& (((1 : Int64) <<< ((40 : Int32) &&& 0x3f).toInt64) - (1 : Int64))))])) _
    refine XS.aloadN X0.here hx rfl (hb hby d2_12) rfl rfl ?_
    show Steps p.tables e below (s₁.setTop (mkF m 13 #[.val (.ref b), .val (.int p1), .val (.int (8 : Int32)), .val (.long (q &&& (((1 : Int64) <<< ((40 : Int32) &&& 0x3f).toInt64) - (1 : Int64)))), .second, .val (.int (5 : Int32))] [(.ref b), (.long (q &&& (((1 : Int64) <<< ((40 : Int32) &&& 0x3f).toInt64) - (1 : Int64))))])) _
    refine XS.iloadN X0.here hx rfl (hb hby d2_13) rfl ?_
    show Steps p.tables e below (s₁.setTop (mkF m 14 #[.val (.ref b), .val (.int p1), .val (.int (8 : Int32)), .val (.long (q &&& (((1 : Int64) <<< ((40 : Int32) &&& 0x3f).toInt64) - (1 : Int64)))), .second, .val (.int (5 : Int32))] [(.int p1), (.ref b), (.long (q &&& (((1 : Int64) <<< ((40 : Int32) &&& 0x3f).toInt64) - (1 : Int64))))])) _
    refine XS.iload X0.here hx rfl (hb hby d2_14) rfl ?_
    show Steps p.tables e below (s₁.setTop (mkF m 16 #[.val (.ref b), .val (.int p1), .val (.int (8 : Int32)), .val (.long (q &&& (((1 : Int64) <<< ((40 : Int32) &&& 0x3f).toInt64) - (1 : Int64)))), .second, .val (.int (5 : Int32))] [(.int (5 : Int32)), (.int p1), (.ref b), (.long (q &&& (((1 : Int64) <<< ((40 : Int32) &&& 0x3f).toInt64) - (1 : Int64))))])) _
    refine XS.iadd X0.here hx rfl (hb hby d2_16) rfl ?_
    show Steps p.tables e below (s₁.setTop (mkF m 17 #[.val (.ref b), .val (.int p1), .val (.int (8 : Int32)), .val (.long (q &&& (((1 : Int64) <<< ((40 : Int32) &&& 0x3f).toInt64) - (1 : Int64)))), .second, .val (.int (5 : Int32))] [(.int (p1 + (5 : Int32))), (.ref b), (.long (q &&& (((1 : Int64) <<< ((40 : Int32) &&& 0x3f).toInt64) - (1 : Int64))))])) _
    exact kq)
  obtain ⟨cl116, Ar116, q116, S116, M116, H116, Gf116⟩ := id A
  have hi117 : ¬ ((p1 + (5 : Int32)) < 0 ∨ cl116.slots.size ≤ ((p1 + (5 : Int32))).toNatClampNeg) := (inb_of S116 (hat (5 : Int32) (Or.inr (Or.inr (Or.inr (Or.inr (Or.inr (Or.inl rfl))))))).1)
  have G118 : Go p e below A0 (s₁.setTop (mkF m 17 #[.val (.ref b), .val (.int p1), .val (.int (8 : Int32)), .val (.long (q &&& (((1 : Int64) <<< ((48 : Int32) &&& 0x3f).toInt64) - (1 : Int64)))), .second, .val (.int (6 : Int32))] [(.int (p1 + (6 : Int32))), (.ref b), (.long (q &&& (((1 : Int64) <<< ((48 : Int32) &&& 0x3f).toInt64) - (1 : Int64))))])) := fun tq kq => G115 tq (by
    refine X0.baloadBytes hx (j := (p1 + (5 : Int32))) (v := (.int (own_by q (5 : Int32)))) (by rw [e0]; exact Ar116.1) (State.isArrayOf_alike hZ.alike Ar116.2.1) Ar116.2.2 hi117 (H116.at hi117 (hat (5 : Int32) (Or.inr (Or.inr (Or.inr (Or.inr (Or.inr (Or.inl rfl))))))).2) (g := (mkF m 17 #[.val (.ref b), .val (.int p1), .val (.int (8 : Int32)), .val (.long (q &&& (((1 : Int64) <<< ((40 : Int32) &&& 0x3f).toInt64) - (1 : Int64)))), .second, .val (.int (5 : Int32))] [(.int (p1 + (5 : Int32))), (.ref b), (.long (q &&& (((1 : Int64) <<< ((40 : Int32) &&& 0x3f).toInt64) - (1 : Int64))))])) rfl rfl (hb hby d2_17) _ ?_
    show Steps p.tables e below (s₁.setTop (mkF m 18 #[.val (.ref b), .val (.int p1), .val (.int (8 : Int32)), .val (.long (q &&& (((1 : Int64) <<< ((40 : Int32) &&& 0x3f).toInt64) - (1 : Int64)))), .second, .val (.int (5 : Int32))] [(.int (own_by q (5 : Int32))), (.long (q &&& (((1 : Int64) <<< ((40 : Int32) &&& 0x3f).toInt64) - (1 : Int64))))])) _
    refine XS.sipush X0.here hx rfl (hb hby d2_18) ?_
    show Steps p.tables e below (s₁.setTop (mkF m 21 #[.val (.ref b), .val (.int p1), .val (.int (8 : Int32)), .val (.long (q &&& (((1 : Int64) <<< ((40 : Int32) &&& 0x3f).toInt64) - (1 : Int64)))), .second, .val (.int (5 : Int32))] [(.int (255 : Int32)), (.int (own_by q (5 : Int32))), (.long (q &&& (((1 : Int64) <<< ((40 : Int32) &&& 0x3f).toInt64) - (1 : Int64))))])) _
    refine XS.iand X0.here hx rfl (hb hby d2_21) rfl ?_
    show Steps p.tables e below (s₁.setTop (mkF m 22 #[.val (.ref b), .val (.int p1), .val (.int (8 : Int32)), .val (.long (q &&& (((1 : Int64) <<< ((40 : Int32) &&& 0x3f).toInt64) - (1 : Int64)))), .second, .val (.int (5 : Int32))] [(.int ((own_by q (5 : Int32)) &&& (255 : Int32))), (.long (q &&& (((1 : Int64) <<< ((40 : Int32) &&& 0x3f).toInt64) - (1 : Int64))))])) _
    refine XS.i2l X0.here hx rfl (hb hby d2_22) rfl ?_
    show Steps p.tables e below (s₁.setTop (mkF m 23 #[.val (.ref b), .val (.int p1), .val (.int (8 : Int32)), .val (.long (q &&& (((1 : Int64) <<< ((40 : Int32) &&& 0x3f).toInt64) - (1 : Int64)))), .second, .val (.int (5 : Int32))] [(.long ((own_by q (5 : Int32)) &&& (255 : Int32)).toInt64), (.long (q &&& (((1 : Int64) <<< ((40 : Int32) &&& 0x3f).toInt64) - (1 : Int64))))])) _
    refine XS.bipush X0.here hx rfl (hb hby d2_23) ?_
    show Steps p.tables e below (s₁.setTop (mkF m 25 #[.val (.ref b), .val (.int p1), .val (.int (8 : Int32)), .val (.long (q &&& (((1 : Int64) <<< ((40 : Int32) &&& 0x3f).toInt64) - (1 : Int64)))), .second, .val (.int (5 : Int32))] [(.int (8 : Int32)), (.long ((own_by q (5 : Int32)) &&& (255 : Int32)).toInt64), (.long (q &&& (((1 : Int64) <<< ((40 : Int32) &&& 0x3f).toInt64) - (1 : Int64))))])) _
    refine XS.iload X0.here hx rfl (hb hby d2_25) rfl ?_
    show Steps p.tables e below (s₁.setTop (mkF m 27 #[.val (.ref b), .val (.int p1), .val (.int (8 : Int32)), .val (.long (q &&& (((1 : Int64) <<< ((40 : Int32) &&& 0x3f).toInt64) - (1 : Int64)))), .second, .val (.int (5 : Int32))] [(.int (5 : Int32)), (.int (8 : Int32)), (.long ((own_by q (5 : Int32)) &&& (255 : Int32)).toInt64), (.long (q &&& (((1 : Int64) <<< ((40 : Int32) &&& 0x3f).toInt64) - (1 : Int64))))])) _
    refine XS.imul X0.here hx rfl (hb hby d2_27) rfl ?_
    show Steps p.tables e below (s₁.setTop (mkF m 28 #[.val (.ref b), .val (.int p1), .val (.int (8 : Int32)), .val (.long (q &&& (((1 : Int64) <<< ((40 : Int32) &&& 0x3f).toInt64) - (1 : Int64)))), .second, .val (.int (5 : Int32))] [(.int ((8 : Int32) * (5 : Int32))), (.long ((own_by q (5 : Int32)) &&& (255 : Int32)).toInt64), (.long (q &&& (((1 : Int64) <<< ((40 : Int32) &&& 0x3f).toInt64) - (1 : Int64))))])) _
    rw [show ((8 : Int32) * (5 : Int32)) = (40 : Int32) from (by decide : ((8 : Int32) * (5 : Int32)) = (40 : Int32))]
    show Steps p.tables e below (s₁.setTop (mkF m 28 #[.val (.ref b), .val (.int p1), .val (.int (8 : Int32)), .val (.long (q &&& (((1 : Int64) <<< ((40 : Int32) &&& 0x3f).toInt64) - (1 : Int64)))), .second, .val (.int (5 : Int32))] [(.int (40 : Int32)), (.long ((own_by q (5 : Int32)) &&& (255 : Int32)).toInt64), (.long (q &&& (((1 : Int64) <<< ((40 : Int32) &&& 0x3f).toInt64) - (1 : Int64))))])) _
    refine XS.lshl X0.here hx rfl (hb hby d2_28) rfl ?_
    show Steps p.tables e below (s₁.setTop (mkF m 29 #[.val (.ref b), .val (.int p1), .val (.int (8 : Int32)), .val (.long (q &&& (((1 : Int64) <<< ((40 : Int32) &&& 0x3f).toInt64) - (1 : Int64)))), .second, .val (.int (5 : Int32))] [(.long (((own_by q (5 : Int32)) &&& (255 : Int32)).toInt64 <<< ((40 : Int32) &&& 0x3f).toInt64)), (.long (q &&& (((1 : Int64) <<< ((40 : Int32) &&& 0x3f).toInt64) - (1 : Int64))))])) _
    refine XS.lor X0.here hx rfl (hb hby d2_29) rfl ?_
    show Steps p.tables e below (s₁.setTop (mkF m 30 #[.val (.ref b), .val (.int p1), .val (.int (8 : Int32)), .val (.long (q &&& (((1 : Int64) <<< ((40 : Int32) &&& 0x3f).toInt64) - (1 : Int64)))), .second, .val (.int (5 : Int32))] [(.long ((q &&& (((1 : Int64) <<< ((40 : Int32) &&& 0x3f).toInt64) - (1 : Int64))) ||| (((own_by q (5 : Int32)) &&& (255 : Int32)).toInt64 <<< ((40 : Int32) &&& 0x3f).toInt64)))])) _
    rw [show ((q &&& (((1 : Int64) <<< ((40 : Int32) &&& 0x3f).toInt64) - (1 : Int64))) ||| (((own_by q (5 : Int32)) &&& (255 : Int32)).toInt64 <<< ((40 : Int32) &&& 0x3f).toInt64)) = (q &&& (((1 : Int64) <<< ((48 : Int32) &&& 0x3f).toInt64) - (1 : Int64))) from own_step_5 q]
    show Steps p.tables e below (s₁.setTop (mkF m 30 #[.val (.ref b), .val (.int p1), .val (.int (8 : Int32)), .val (.long (q &&& (((1 : Int64) <<< ((40 : Int32) &&& 0x3f).toInt64) - (1 : Int64)))), .second, .val (.int (5 : Int32))] [(.long (q &&& (((1 : Int64) <<< ((48 : Int32) &&& 0x3f).toInt64) - (1 : Int64))))])) _
    refine XS.lstoreN X0.here hx rfl (hb hby d2_30) rfl (l' := #[.val (.ref b), .val (.int p1), .val (.int (8 : Int32)), .val (.long (q &&& (((1 : Int64) <<< ((48 : Int32) &&& 0x3f).toInt64) - (1 : Int64)))), .second, .val (.int (5 : Int32))]) rfl ?_
    show Steps p.tables e below (s₁.setTop (mkF m 31 #[.val (.ref b), .val (.int p1), .val (.int (8 : Int32)), .val (.long (q &&& (((1 : Int64) <<< ((48 : Int32) &&& 0x3f).toInt64) - (1 : Int64)))), .second, .val (.int (5 : Int32))] [])) _
    refine XS.iinc X0.here hx rfl (hb hby d2_31) rfl (l' := #[.val (.ref b), .val (.int p1), .val (.int (8 : Int32)), .val (.long (q &&& (((1 : Int64) <<< ((48 : Int32) &&& 0x3f).toInt64) - (1 : Int64)))), .second, .val (.int ((5 : Int32) + (1 : Int32)))]) rfl ?_
    show Steps p.tables e below (s₁.setTop (mkF m 34 #[.val (.ref b), .val (.int p1), .val (.int (8 : Int32)), .val (.long (q &&& (((1 : Int64) <<< ((48 : Int32) &&& 0x3f).toInt64) - (1 : Int64)))), .second, .val (.int ((5 : Int32) + (1 : Int32)))] [])) _
    rw [show ((5 : Int32) + (1 : Int32)) = (6 : Int32) from (by decide : ((5 : Int32) + (1 : Int32)) = (6 : Int32))]
    show Steps p.tables e below (s₁.setTop (mkF m 34 #[.val (.ref b), .val (.int p1), .val (.int (8 : Int32)), .val (.long (q &&& (((1 : Int64) <<< ((48 : Int32) &&& 0x3f).toInt64) - (1 : Int64)))), .second, .val (.int (6 : Int32))] [])) _
    refine XS.goto X0.here hx rfl (pc0 := 34) (pc' := 5) rfl (hb hby d2_34) (by decide) (by decide) ?_
    show Steps p.tables e below (s₁.setTop (mkF m 5 #[.val (.ref b), .val (.int p1), .val (.int (8 : Int32)), .val (.long (q &&& (((1 : Int64) <<< ((48 : Int32) &&& 0x3f).toInt64) - (1 : Int64)))), .second, .val (.int (6 : Int32))] [])) _
    refine XS.iload X0.here hx rfl (hb hby d2_5) rfl ?_
    show Steps p.tables e below (s₁.setTop (mkF m 7 #[.val (.ref b), .val (.int p1), .val (.int (8 : Int32)), .val (.long (q &&& (((1 : Int64) <<< ((48 : Int32) &&& 0x3f).toInt64) - (1 : Int64)))), .second, .val (.int (6 : Int32))] [(.int (6 : Int32))])) _
    refine XS.iloadN X0.here hx rfl (hb hby d2_7) rfl ?_
    show Steps p.tables e below (s₁.setTop (mkF m 8 #[.val (.ref b), .val (.int p1), .val (.int (8 : Int32)), .val (.long (q &&& (((1 : Int64) <<< ((48 : Int32) &&& 0x3f).toInt64) - (1 : Int64)))), .second, .val (.int (6 : Int32))] [(.int (8 : Int32)), (.int (6 : Int32))])) _
    refine XS.icmpNo X0.here hx rfl (hb hby d2_8) rfl (by decide) ?_
    show Steps p.tables e below (s₁.setTop (mkF m 11 #[.val (.ref b), .val (.int p1), .val (.int (8 : Int32)), .val (.long (q &&& (((1 : Int64) <<< ((48 : Int32) &&& 0x3f).toInt64) - (1 : Int64)))), .second, .val (.int (6 : Int32))] [])) _
    refine XS.lloadN X0.here hx rfl (hb hby d2_11) rfl ?_
    show Steps p.tables e below (s₁.setTop (mkF m 12 #[.val (.ref b), .val (.int p1), .val (.int (8 : Int32)), .val (.long (q &&& (((1 : Int64) <<< ((48 : Int32) &&& 0x3f).toInt64) - (1 : Int64)))), .second, .val (.int (6 : Int32))] [(.long (q &&& (((1 : Int64) <<< ((48 : Int32) &&& 0x3f).toInt64) - (1 : Int64))))])) _
    refine XS.aloadN X0.here hx rfl (hb hby d2_12) rfl rfl ?_
    show Steps p.tables e below (s₁.setTop (mkF m 13 #[.val (.ref b), .val (.int p1), .val (.int (8 : Int32)), .val (.long (q &&& (((1 : Int64) <<< ((48 : Int32) &&& 0x3f).toInt64) - (1 : Int64)))), .second, .val (.int (6 : Int32))] [(.ref b), (.long (q &&& (((1 : Int64) <<< ((48 : Int32) &&& 0x3f).toInt64) - (1 : Int64))))])) _
    refine XS.iloadN X0.here hx rfl (hb hby d2_13) rfl ?_
    show Steps p.tables e below (s₁.setTop (mkF m 14 #[.val (.ref b), .val (.int p1), .val (.int (8 : Int32)), .val (.long (q &&& (((1 : Int64) <<< ((48 : Int32) &&& 0x3f).toInt64) - (1 : Int64)))), .second, .val (.int (6 : Int32))] [(.int p1), (.ref b), (.long (q &&& (((1 : Int64) <<< ((48 : Int32) &&& 0x3f).toInt64) - (1 : Int64))))])) _
    refine XS.iload X0.here hx rfl (hb hby d2_14) rfl ?_
    show Steps p.tables e below (s₁.setTop (mkF m 16 #[.val (.ref b), .val (.int p1), .val (.int (8 : Int32)), .val (.long (q &&& (((1 : Int64) <<< ((48 : Int32) &&& 0x3f).toInt64) - (1 : Int64)))), .second, .val (.int (6 : Int32))] [(.int (6 : Int32)), (.int p1), (.ref b), (.long (q &&& (((1 : Int64) <<< ((48 : Int32) &&& 0x3f).toInt64) - (1 : Int64))))])) _
    refine XS.iadd X0.here hx rfl (hb hby d2_16) rfl ?_
    show Steps p.tables e below (s₁.setTop (mkF m 17 #[.val (.ref b), .val (.int p1), .val (.int (8 : Int32)), .val (.long (q &&& (((1 : Int64) <<< ((48 : Int32) &&& 0x3f).toInt64) - (1 : Int64)))), .second, .val (.int (6 : Int32))] [(.int (p1 + (6 : Int32))), (.ref b), (.long (q &&& (((1 : Int64) <<< ((48 : Int32) &&& 0x3f).toInt64) - (1 : Int64))))])) _
    exact kq)
  obtain ⟨cl119, Ar119, q119, S119, M119, H119, Gf119⟩ := id A
  have hi120 : ¬ ((p1 + (6 : Int32)) < 0 ∨ cl119.slots.size ≤ ((p1 + (6 : Int32))).toNatClampNeg) := (inb_of S119 (hat (6 : Int32) (Or.inr (Or.inr (Or.inr (Or.inr (Or.inr (Or.inr (Or.inl rfl)))))))).1)
  have G121 : Go p e below A0 (s₁.setTop (mkF m 17 #[.val (.ref b), .val (.int p1), .val (.int (8 : Int32)), .val (.long (q &&& (((1 : Int64) <<< ((56 : Int32) &&& 0x3f).toInt64) - (1 : Int64)))), .second, .val (.int (7 : Int32))] [(.int (p1 + (7 : Int32))), (.ref b), (.long (q &&& (((1 : Int64) <<< ((56 : Int32) &&& 0x3f).toInt64) - (1 : Int64))))])) := fun tq kq => G118 tq (by
    refine X0.baloadBytes hx (j := (p1 + (6 : Int32))) (v := (.int (own_by q (6 : Int32)))) (by rw [e0]; exact Ar119.1) (State.isArrayOf_alike hZ.alike Ar119.2.1) Ar119.2.2 hi120 (H119.at hi120 (hat (6 : Int32) (Or.inr (Or.inr (Or.inr (Or.inr (Or.inr (Or.inr (Or.inl rfl)))))))).2) (g := (mkF m 17 #[.val (.ref b), .val (.int p1), .val (.int (8 : Int32)), .val (.long (q &&& (((1 : Int64) <<< ((48 : Int32) &&& 0x3f).toInt64) - (1 : Int64)))), .second, .val (.int (6 : Int32))] [(.int (p1 + (6 : Int32))), (.ref b), (.long (q &&& (((1 : Int64) <<< ((48 : Int32) &&& 0x3f).toInt64) - (1 : Int64))))])) rfl rfl (hb hby d2_17) _ ?_
    show Steps p.tables e below (s₁.setTop (mkF m 18 #[.val (.ref b), .val (.int p1), .val (.int (8 : Int32)), .val (.long (q &&& (((1 : Int64) <<< ((48 : Int32) &&& 0x3f).toInt64) - (1 : Int64)))), .second, .val (.int (6 : Int32))] [(.int (own_by q (6 : Int32))), (.long (q &&& (((1 : Int64) <<< ((48 : Int32) &&& 0x3f).toInt64) - (1 : Int64))))])) _
    refine XS.sipush X0.here hx rfl (hb hby d2_18) ?_
    show Steps p.tables e below (s₁.setTop (mkF m 21 #[.val (.ref b), .val (.int p1), .val (.int (8 : Int32)), .val (.long (q &&& (((1 : Int64) <<< ((48 : Int32) &&& 0x3f).toInt64) - (1 : Int64)))), .second, .val (.int (6 : Int32))] [(.int (255 : Int32)), (.int (own_by q (6 : Int32))), (.long (q &&& (((1 : Int64) <<< ((48 : Int32) &&& 0x3f).toInt64) - (1 : Int64))))])) _
    refine XS.iand X0.here hx rfl (hb hby d2_21) rfl ?_
    show Steps p.tables e below (s₁.setTop (mkF m 22 #[.val (.ref b), .val (.int p1), .val (.int (8 : Int32)), .val (.long (q &&& (((1 : Int64) <<< ((48 : Int32) &&& 0x3f).toInt64) - (1 : Int64)))), .second, .val (.int (6 : Int32))] [(.int ((own_by q (6 : Int32)) &&& (255 : Int32))), (.long (q &&& (((1 : Int64) <<< ((48 : Int32) &&& 0x3f).toInt64) - (1 : Int64))))])) _
    refine XS.i2l X0.here hx rfl (hb hby d2_22) rfl ?_
    show Steps p.tables e below (s₁.setTop (mkF m 23 #[.val (.ref b), .val (.int p1), .val (.int (8 : Int32)), .val (.long (q &&& (((1 : Int64) <<< ((48 : Int32) &&& 0x3f).toInt64) - (1 : Int64)))), .second, .val (.int (6 : Int32))] [(.long ((own_by q (6 : Int32)) &&& (255 : Int32)).toInt64), (.long (q &&& (((1 : Int64) <<< ((48 : Int32) &&& 0x3f).toInt64) - (1 : Int64))))])) _
    refine XS.bipush X0.here hx rfl (hb hby d2_23) ?_
    show Steps p.tables e below (s₁.setTop (mkF m 25 #[.val (.ref b), .val (.int p1), .val (.int (8 : Int32)), .val (.long (q &&& (((1 : Int64) <<< ((48 : Int32) &&& 0x3f).toInt64) - (1 : Int64)))), .second, .val (.int (6 : Int32))] [(.int (8 : Int32)), (.long ((own_by q (6 : Int32)) &&& (255 : Int32)).toInt64), (.long (q &&& (((1 : Int64) <<< ((48 : Int32) &&& 0x3f).toInt64) - (1 : Int64))))])) _
    refine XS.iload X0.here hx rfl (hb hby d2_25) rfl ?_
    show Steps p.tables e below (s₁.setTop (mkF m 27 #[.val (.ref b), .val (.int p1), .val (.int (8 : Int32)), .val (.long (q &&& (((1 : Int64) <<< ((48 : Int32) &&& 0x3f).toInt64) - (1 : Int64)))), .second, .val (.int (6 : Int32))] [(.int (6 : Int32)), (.int (8 : Int32)), (.long ((own_by q (6 : Int32)) &&& (255 : Int32)).toInt64), (.long (q &&& (((1 : Int64) <<< ((48 : Int32) &&& 0x3f).toInt64) - (1 : Int64))))])) _
    refine XS.imul X0.here hx rfl (hb hby d2_27) rfl ?_
    show Steps p.tables e below (s₁.setTop (mkF m 28 #[.val (.ref b), .val (.int p1), .val (.int (8 : Int32)), .val (.long (q &&& (((1 : Int64) <<< ((48 : Int32) &&& 0x3f).toInt64) - (1 : Int64)))), .second, .val (.int (6 : Int32))] [(.int ((8 : Int32) * (6 : Int32))), (.long ((own_by q (6 : Int32)) &&& (255 : Int32)).toInt64), (.long (q &&& (((1 : Int64) <<< ((48 : Int32) &&& 0x3f).toInt64) - (1 : Int64))))])) _
    rw [show ((8 : Int32) * (6 : Int32)) = (48 : Int32) from (by decide : ((8 : Int32) * (6 : Int32)) = (48 : Int32))]
    show Steps p.tables e below (s₁.setTop (mkF m 28 #[.val (.ref b), .val (.int p1), .val (.int (8 : Int32)), .val (.long (q &&& (((1 : Int64) <<< ((48 : Int32) &&& 0x3f).toInt64) - (1 : Int64)))), .second, .val (.int (6 : Int32))] [(.int (48 : Int32)), (.long ((own_by q (6 : Int32)) &&& (255 : Int32)).toInt64), (.long (q &&& (((1 : Int64) <<< ((48 : Int32) &&& 0x3f).toInt64) - (1 : Int64))))])) _
    refine XS.lshl X0.here hx rfl (hb hby d2_28) rfl ?_
    show Steps p.tables e below (s₁.setTop (mkF m 29 #[.val (.ref b), .val (.int p1), .val (.int (8 : Int32)), .val (.long (q &&& (((1 : Int64) <<< ((48 : Int32) &&& 0x3f).toInt64) - (1 : Int64)))), .second, .val (.int (6 : Int32))] [(.long (((own_by q (6 : Int32)) &&& (255 : Int32)).toInt64 <<< ((48 : Int32) &&& 0x3f).toInt64)), (.long (q &&& (((1 : Int64) <<< ((48 : Int32) &&& 0x3f).toInt64) - (1 : Int64))))])) _
    refine XS.lor X0.here hx rfl (hb hby d2_29) rfl ?_
    show Steps p.tables e below (s₁.setTop (mkF m 30 #[.val (.ref b), .val (.int p1), .val (.int (8 : Int32)), .val (.long (q &&& (((1 : Int64) <<< ((48 : Int32) &&& 0x3f).toInt64) - (1 : Int64)))), .second, .val (.int (6 : Int32))] [(.long ((q &&& (((1 : Int64) <<< ((48 : Int32) &&& 0x3f).toInt64) - (1 : Int64))) ||| (((own_by q (6 : Int32)) &&& (255 : Int32)).toInt64 <<< ((48 : Int32) &&& 0x3f).toInt64)))])) _
    rw [show ((q &&& (((1 : Int64) <<< ((48 : Int32) &&& 0x3f).toInt64) - (1 : Int64))) ||| (((own_by q (6 : Int32)) &&& (255 : Int32)).toInt64 <<< ((48 : Int32) &&& 0x3f).toInt64)) = (q &&& (((1 : Int64) <<< ((56 : Int32) &&& 0x3f).toInt64) - (1 : Int64))) from own_step_6 q]
    show Steps p.tables e below (s₁.setTop (mkF m 30 #[.val (.ref b), .val (.int p1), .val (.int (8 : Int32)), .val (.long (q &&& (((1 : Int64) <<< ((48 : Int32) &&& 0x3f).toInt64) - (1 : Int64)))), .second, .val (.int (6 : Int32))] [(.long (q &&& (((1 : Int64) <<< ((56 : Int32) &&& 0x3f).toInt64) - (1 : Int64))))])) _
    refine XS.lstoreN X0.here hx rfl (hb hby d2_30) rfl (l' := #[.val (.ref b), .val (.int p1), .val (.int (8 : Int32)), .val (.long (q &&& (((1 : Int64) <<< ((56 : Int32) &&& 0x3f).toInt64) - (1 : Int64)))), .second, .val (.int (6 : Int32))]) rfl ?_
    show Steps p.tables e below (s₁.setTop (mkF m 31 #[.val (.ref b), .val (.int p1), .val (.int (8 : Int32)), .val (.long (q &&& (((1 : Int64) <<< ((56 : Int32) &&& 0x3f).toInt64) - (1 : Int64)))), .second, .val (.int (6 : Int32))] [])) _
    refine XS.iinc X0.here hx rfl (hb hby d2_31) rfl (l' := #[.val (.ref b), .val (.int p1), .val (.int (8 : Int32)), .val (.long (q &&& (((1 : Int64) <<< ((56 : Int32) &&& 0x3f).toInt64) - (1 : Int64)))), .second, .val (.int ((6 : Int32) + (1 : Int32)))]) rfl ?_
    show Steps p.tables e below (s₁.setTop (mkF m 34 #[.val (.ref b), .val (.int p1), .val (.int (8 : Int32)), .val (.long (q &&& (((1 : Int64) <<< ((56 : Int32) &&& 0x3f).toInt64) - (1 : Int64)))), .second, .val (.int ((6 : Int32) + (1 : Int32)))] [])) _
    rw [show ((6 : Int32) + (1 : Int32)) = (7 : Int32) from (by decide : ((6 : Int32) + (1 : Int32)) = (7 : Int32))]
    show Steps p.tables e below (s₁.setTop (mkF m 34 #[.val (.ref b), .val (.int p1), .val (.int (8 : Int32)), .val (.long (q &&& (((1 : Int64) <<< ((56 : Int32) &&& 0x3f).toInt64) - (1 : Int64)))), .second, .val (.int (7 : Int32))] [])) _
    refine XS.goto X0.here hx rfl (pc0 := 34) (pc' := 5) rfl (hb hby d2_34) (by decide) (by decide) ?_
    show Steps p.tables e below (s₁.setTop (mkF m 5 #[.val (.ref b), .val (.int p1), .val (.int (8 : Int32)), .val (.long (q &&& (((1 : Int64) <<< ((56 : Int32) &&& 0x3f).toInt64) - (1 : Int64)))), .second, .val (.int (7 : Int32))] [])) _
    refine XS.iload X0.here hx rfl (hb hby d2_5) rfl ?_
    show Steps p.tables e below (s₁.setTop (mkF m 7 #[.val (.ref b), .val (.int p1), .val (.int (8 : Int32)), .val (.long (q &&& (((1 : Int64) <<< ((56 : Int32) &&& 0x3f).toInt64) - (1 : Int64)))), .second, .val (.int (7 : Int32))] [(.int (7 : Int32))])) _
    refine XS.iloadN X0.here hx rfl (hb hby d2_7) rfl ?_
    show Steps p.tables e below (s₁.setTop (mkF m 8 #[.val (.ref b), .val (.int p1), .val (.int (8 : Int32)), .val (.long (q &&& (((1 : Int64) <<< ((56 : Int32) &&& 0x3f).toInt64) - (1 : Int64)))), .second, .val (.int (7 : Int32))] [(.int (8 : Int32)), (.int (7 : Int32))])) _
    refine XS.icmpNo X0.here hx rfl (hb hby d2_8) rfl (by decide) ?_
    show Steps p.tables e below (s₁.setTop (mkF m 11 #[.val (.ref b), .val (.int p1), .val (.int (8 : Int32)), .val (.long (q &&& (((1 : Int64) <<< ((56 : Int32) &&& 0x3f).toInt64) - (1 : Int64)))), .second, .val (.int (7 : Int32))] [])) _
    refine XS.lloadN X0.here hx rfl (hb hby d2_11) rfl ?_
    show Steps p.tables e below (s₁.setTop (mkF m 12 #[.val (.ref b), .val (.int p1), .val (.int (8 : Int32)), .val (.long (q &&& (((1 : Int64) <<< ((56 : Int32) &&& 0x3f).toInt64) - (1 : Int64)))), .second, .val (.int (7 : Int32))] [(.long (q &&& (((1 : Int64) <<< ((56 : Int32) &&& 0x3f).toInt64) - (1 : Int64))))])) _
    refine XS.aloadN X0.here hx rfl (hb hby d2_12) rfl rfl ?_
    show Steps p.tables e below (s₁.setTop (mkF m 13 #[.val (.ref b), .val (.int p1), .val (.int (8 : Int32)), .val (.long (q &&& (((1 : Int64) <<< ((56 : Int32) &&& 0x3f).toInt64) - (1 : Int64)))), .second, .val (.int (7 : Int32))] [(.ref b), (.long (q &&& (((1 : Int64) <<< ((56 : Int32) &&& 0x3f).toInt64) - (1 : Int64))))])) _
    refine XS.iloadN X0.here hx rfl (hb hby d2_13) rfl ?_
    show Steps p.tables e below (s₁.setTop (mkF m 14 #[.val (.ref b), .val (.int p1), .val (.int (8 : Int32)), .val (.long (q &&& (((1 : Int64) <<< ((56 : Int32) &&& 0x3f).toInt64) - (1 : Int64)))), .second, .val (.int (7 : Int32))] [(.int p1), (.ref b), (.long (q &&& (((1 : Int64) <<< ((56 : Int32) &&& 0x3f).toInt64) - (1 : Int64))))])) _
    refine XS.iload X0.here hx rfl (hb hby d2_14) rfl ?_
    show Steps p.tables e below (s₁.setTop (mkF m 16 #[.val (.ref b), .val (.int p1), .val (.int (8 : Int32)), .val (.long (q &&& (((1 : Int64) <<< ((56 : Int32) &&& 0x3f).toInt64) - (1 : Int64)))), .second, .val (.int (7 : Int32))] [(.int (7 : Int32)), (.int p1), (.ref b), (.long (q &&& (((1 : Int64) <<< ((56 : Int32) &&& 0x3f).toInt64) - (1 : Int64))))])) _
    refine XS.iadd X0.here hx rfl (hb hby d2_16) rfl ?_
    show Steps p.tables e below (s₁.setTop (mkF m 17 #[.val (.ref b), .val (.int p1), .val (.int (8 : Int32)), .val (.long (q &&& (((1 : Int64) <<< ((56 : Int32) &&& 0x3f).toInt64) - (1 : Int64)))), .second, .val (.int (7 : Int32))] [(.int (p1 + (7 : Int32))), (.ref b), (.long (q &&& (((1 : Int64) <<< ((56 : Int32) &&& 0x3f).toInt64) - (1 : Int64))))])) _
    exact kq)
  obtain ⟨cl122, Ar122, q122, S122, M122, H122, Gf122⟩ := id A
  have hi123 : ¬ ((p1 + (7 : Int32)) < 0 ∨ cl122.slots.size ≤ ((p1 + (7 : Int32))).toNatClampNeg) := (inb_of S122 (hat (7 : Int32) (Or.inr (Or.inr (Or.inr (Or.inr (Or.inr (Or.inr (Or.inr (rfl))))))))).1)
  have G124 : Go p e below A0 (s₁.setTop (mkF m 38 #[.val (.ref b), .val (.int p1), .val (.int (8 : Int32)), .val (.long q), .second, .val (.int (8 : Int32))] [(.long q)])) := fun tq kq => G121 tq (by
    refine X0.baloadBytes hx (j := (p1 + (7 : Int32))) (v := (.int (own_by q (7 : Int32)))) (by rw [e0]; exact Ar122.1) (State.isArrayOf_alike hZ.alike Ar122.2.1) Ar122.2.2 hi123 (H122.at hi123 (hat (7 : Int32) (Or.inr (Or.inr (Or.inr (Or.inr (Or.inr (Or.inr (Or.inr (rfl))))))))).2) (g := (mkF m 17 #[.val (.ref b), .val (.int p1), .val (.int (8 : Int32)), .val (.long (q &&& (((1 : Int64) <<< ((56 : Int32) &&& 0x3f).toInt64) - (1 : Int64)))), .second, .val (.int (7 : Int32))] [(.int (p1 + (7 : Int32))), (.ref b), (.long (q &&& (((1 : Int64) <<< ((56 : Int32) &&& 0x3f).toInt64) - (1 : Int64))))])) rfl rfl (hb hby d2_17) _ ?_
    show Steps p.tables e below (s₁.setTop (mkF m 18 #[.val (.ref b), .val (.int p1), .val (.int (8 : Int32)), .val (.long (q &&& (((1 : Int64) <<< ((56 : Int32) &&& 0x3f).toInt64) - (1 : Int64)))), .second, .val (.int (7 : Int32))] [(.int (own_by q (7 : Int32))), (.long (q &&& (((1 : Int64) <<< ((56 : Int32) &&& 0x3f).toInt64) - (1 : Int64))))])) _
    refine XS.sipush X0.here hx rfl (hb hby d2_18) ?_
    show Steps p.tables e below (s₁.setTop (mkF m 21 #[.val (.ref b), .val (.int p1), .val (.int (8 : Int32)), .val (.long (q &&& (((1 : Int64) <<< ((56 : Int32) &&& 0x3f).toInt64) - (1 : Int64)))), .second, .val (.int (7 : Int32))] [(.int (255 : Int32)), (.int (own_by q (7 : Int32))), (.long (q &&& (((1 : Int64) <<< ((56 : Int32) &&& 0x3f).toInt64) - (1 : Int64))))])) _
    refine XS.iand X0.here hx rfl (hb hby d2_21) rfl ?_
    show Steps p.tables e below (s₁.setTop (mkF m 22 #[.val (.ref b), .val (.int p1), .val (.int (8 : Int32)), .val (.long (q &&& (((1 : Int64) <<< ((56 : Int32) &&& 0x3f).toInt64) - (1 : Int64)))), .second, .val (.int (7 : Int32))] [(.int ((own_by q (7 : Int32)) &&& (255 : Int32))), (.long (q &&& (((1 : Int64) <<< ((56 : Int32) &&& 0x3f).toInt64) - (1 : Int64))))])) _
    refine XS.i2l X0.here hx rfl (hb hby d2_22) rfl ?_
    show Steps p.tables e below (s₁.setTop (mkF m 23 #[.val (.ref b), .val (.int p1), .val (.int (8 : Int32)), .val (.long (q &&& (((1 : Int64) <<< ((56 : Int32) &&& 0x3f).toInt64) - (1 : Int64)))), .second, .val (.int (7 : Int32))] [(.long ((own_by q (7 : Int32)) &&& (255 : Int32)).toInt64), (.long (q &&& (((1 : Int64) <<< ((56 : Int32) &&& 0x3f).toInt64) - (1 : Int64))))])) _
    refine XS.bipush X0.here hx rfl (hb hby d2_23) ?_
    show Steps p.tables e below (s₁.setTop (mkF m 25 #[.val (.ref b), .val (.int p1), .val (.int (8 : Int32)), .val (.long (q &&& (((1 : Int64) <<< ((56 : Int32) &&& 0x3f).toInt64) - (1 : Int64)))), .second, .val (.int (7 : Int32))] [(.int (8 : Int32)), (.long ((own_by q (7 : Int32)) &&& (255 : Int32)).toInt64), (.long (q &&& (((1 : Int64) <<< ((56 : Int32) &&& 0x3f).toInt64) - (1 : Int64))))])) _
    refine XS.iload X0.here hx rfl (hb hby d2_25) rfl ?_
    show Steps p.tables e below (s₁.setTop (mkF m 27 #[.val (.ref b), .val (.int p1), .val (.int (8 : Int32)), .val (.long (q &&& (((1 : Int64) <<< ((56 : Int32) &&& 0x3f).toInt64) - (1 : Int64)))), .second, .val (.int (7 : Int32))] [(.int (7 : Int32)), (.int (8 : Int32)), (.long ((own_by q (7 : Int32)) &&& (255 : Int32)).toInt64), (.long (q &&& (((1 : Int64) <<< ((56 : Int32) &&& 0x3f).toInt64) - (1 : Int64))))])) _
    refine XS.imul X0.here hx rfl (hb hby d2_27) rfl ?_
    show Steps p.tables e below (s₁.setTop (mkF m 28 #[.val (.ref b), .val (.int p1), .val (.int (8 : Int32)), .val (.long (q &&& (((1 : Int64) <<< ((56 : Int32) &&& 0x3f).toInt64) - (1 : Int64)))), .second, .val (.int (7 : Int32))] [(.int ((8 : Int32) * (7 : Int32))), (.long ((own_by q (7 : Int32)) &&& (255 : Int32)).toInt64), (.long (q &&& (((1 : Int64) <<< ((56 : Int32) &&& 0x3f).toInt64) - (1 : Int64))))])) _
    rw [show ((8 : Int32) * (7 : Int32)) = (56 : Int32) from (by decide : ((8 : Int32) * (7 : Int32)) = (56 : Int32))]
    show Steps p.tables e below (s₁.setTop (mkF m 28 #[.val (.ref b), .val (.int p1), .val (.int (8 : Int32)), .val (.long (q &&& (((1 : Int64) <<< ((56 : Int32) &&& 0x3f).toInt64) - (1 : Int64)))), .second, .val (.int (7 : Int32))] [(.int (56 : Int32)), (.long ((own_by q (7 : Int32)) &&& (255 : Int32)).toInt64), (.long (q &&& (((1 : Int64) <<< ((56 : Int32) &&& 0x3f).toInt64) - (1 : Int64))))])) _
    refine XS.lshl X0.here hx rfl (hb hby d2_28) rfl ?_
    show Steps p.tables e below (s₁.setTop (mkF m 29 #[.val (.ref b), .val (.int p1), .val (.int (8 : Int32)), .val (.long (q &&& (((1 : Int64) <<< ((56 : Int32) &&& 0x3f).toInt64) - (1 : Int64)))), .second, .val (.int (7 : Int32))] [(.long (((own_by q (7 : Int32)) &&& (255 : Int32)).toInt64 <<< ((56 : Int32) &&& 0x3f).toInt64)), (.long (q &&& (((1 : Int64) <<< ((56 : Int32) &&& 0x3f).toInt64) - (1 : Int64))))])) _
    refine XS.lor X0.here hx rfl (hb hby d2_29) rfl ?_
    show Steps p.tables e below (s₁.setTop (mkF m 30 #[.val (.ref b), .val (.int p1), .val (.int (8 : Int32)), .val (.long (q &&& (((1 : Int64) <<< ((56 : Int32) &&& 0x3f).toInt64) - (1 : Int64)))), .second, .val (.int (7 : Int32))] [(.long ((q &&& (((1 : Int64) <<< ((56 : Int32) &&& 0x3f).toInt64) - (1 : Int64))) ||| (((own_by q (7 : Int32)) &&& (255 : Int32)).toInt64 <<< ((56 : Int32) &&& 0x3f).toInt64)))])) _
    rw [show ((q &&& (((1 : Int64) <<< ((56 : Int32) &&& 0x3f).toInt64) - (1 : Int64))) ||| (((own_by q (7 : Int32)) &&& (255 : Int32)).toInt64 <<< ((56 : Int32) &&& 0x3f).toInt64)) = q from own_step_7 q]
    show Steps p.tables e below (s₁.setTop (mkF m 30 #[.val (.ref b), .val (.int p1), .val (.int (8 : Int32)), .val (.long (q &&& (((1 : Int64) <<< ((56 : Int32) &&& 0x3f).toInt64) - (1 : Int64)))), .second, .val (.int (7 : Int32))] [(.long q)])) _
    refine XS.lstoreN X0.here hx rfl (hb hby d2_30) rfl (l' := #[.val (.ref b), .val (.int p1), .val (.int (8 : Int32)), .val (.long q), .second, .val (.int (7 : Int32))]) rfl ?_
    show Steps p.tables e below (s₁.setTop (mkF m 31 #[.val (.ref b), .val (.int p1), .val (.int (8 : Int32)), .val (.long q), .second, .val (.int (7 : Int32))] [])) _
    refine XS.iinc X0.here hx rfl (hb hby d2_31) rfl (l' := #[.val (.ref b), .val (.int p1), .val (.int (8 : Int32)), .val (.long q), .second, .val (.int ((7 : Int32) + (1 : Int32)))]) rfl ?_
    show Steps p.tables e below (s₁.setTop (mkF m 34 #[.val (.ref b), .val (.int p1), .val (.int (8 : Int32)), .val (.long q), .second, .val (.int ((7 : Int32) + (1 : Int32)))] [])) _
    rw [show ((7 : Int32) + (1 : Int32)) = (8 : Int32) from (by decide : ((7 : Int32) + (1 : Int32)) = (8 : Int32))]
    show Steps p.tables e below (s₁.setTop (mkF m 34 #[.val (.ref b), .val (.int p1), .val (.int (8 : Int32)), .val (.long q), .second, .val (.int (8 : Int32))] [])) _
    refine XS.goto X0.here hx rfl (pc0 := 34) (pc' := 5) rfl (hb hby d2_34) (by decide) (by decide) ?_
    show Steps p.tables e below (s₁.setTop (mkF m 5 #[.val (.ref b), .val (.int p1), .val (.int (8 : Int32)), .val (.long q), .second, .val (.int (8 : Int32))] [])) _
    refine XS.iload X0.here hx rfl (hb hby d2_5) rfl ?_
    show Steps p.tables e below (s₁.setTop (mkF m 7 #[.val (.ref b), .val (.int p1), .val (.int (8 : Int32)), .val (.long q), .second, .val (.int (8 : Int32))] [(.int (8 : Int32))])) _
    refine XS.iloadN X0.here hx rfl (hb hby d2_7) rfl ?_
    show Steps p.tables e below (s₁.setTop (mkF m 8 #[.val (.ref b), .val (.int p1), .val (.int (8 : Int32)), .val (.long q), .second, .val (.int (8 : Int32))] [(.int (8 : Int32)), (.int (8 : Int32))])) _
    refine XS.icmpYes X0.here hx rfl (pc0 := 8) (pc' := 37) rfl (hb hby d2_8) rfl (by decide) (by decide) (by decide) ?_
    show Steps p.tables e below (s₁.setTop (mkF m 37 #[.val (.ref b), .val (.int p1), .val (.int (8 : Int32)), .val (.long q), .second, .val (.int (8 : Int32))] [])) _
    refine XS.lloadN X0.here hx rfl (hb hby d2_37) rfl ?_
    show Steps p.tables e below (s₁.setTop (mkF m 38 #[.val (.ref b), .val (.int p1), .val (.int (8 : Int32)), .val (.long q), .second, .val (.int (8 : Int32))] [(.long q)])) _
    exact kq)
  obtain ⟨fs, hr, hrun, hended, hW, hsame⟩ := X0.leave (v := some (.long q)) (fun h => by rw [Bd.returns] at h; cases h)
  refine ⟨_, _, (by rw [← hA0]; exact G124 _ (retOut X0 hx (t := .long) Bd.returns rfl (Or.inr (Or.inl ⟨rfl, rfl, _, rfl⟩)) (hb hby d2_38) hr)), hrun, hended, _, _, rfl, ?_, ⟨_, rfl⟩, hW, hsame.mono (by decide) (by decide)⟩
  exact ⟨rfl, N0, e0⟩
theorem own_hat (pa : Int32) (q0 : Int64) (p1 : Int32) (h : own_Four pa) : own_Hat [(.int (own_pk (0 : Int32) pa q0 p1)), (.int (own_pk (1 : Int32) pa q0 p1)), (.int (own_pk (2 : Int32) pa q0 p1)), (.int (own_pk (3 : Int32) pa q0 p1)), (.int (own_pk (4 : Int32) pa q0 p1)), (.int (own_pk (5 : Int32) pa q0 p1)), (.int (own_pk (6 : Int32) pa q0 p1)), (.int (own_pk (7 : Int32) pa q0 p1)), (.int (own_pk (8 : Int32) pa q0 p1)), (.int (own_pk (9 : Int32) pa q0 p1)), (.int (own_pk (10 : Int32) pa q0 p1)), (.int (own_pk (11 : Int32) pa q0 p1))] pa q0 := by
  rcases h with rfl | rfl | rfl | rfl
  · intro i hi
    rcases hi with rfl | rfl | rfl | rfl | rfl | rfl | rfl | rfl
    · exact ⟨⟨by decide, by decide⟩, congrArg Value.int (own_pkv (p0 := (0 : Int32)) (by decide) (by decide))⟩
    · exact ⟨⟨by decide, by decide⟩, congrArg Value.int (own_pkv (p0 := (1 : Int32)) (by decide) (by decide))⟩
    · exact ⟨⟨by decide, by decide⟩, congrArg Value.int (own_pkv (p0 := (2 : Int32)) (by decide) (by decide))⟩
    · exact ⟨⟨by decide, by decide⟩, congrArg Value.int (own_pkv (p0 := (3 : Int32)) (by decide) (by decide))⟩
    · exact ⟨⟨by decide, by decide⟩, congrArg Value.int (own_pkv (p0 := (4 : Int32)) (by decide) (by decide))⟩
    · exact ⟨⟨by decide, by decide⟩, congrArg Value.int (own_pkv (p0 := (5 : Int32)) (by decide) (by decide))⟩
    · exact ⟨⟨by decide, by decide⟩, congrArg Value.int (own_pkv (p0 := (6 : Int32)) (by decide) (by decide))⟩
    · exact ⟨⟨by decide, by decide⟩, congrArg Value.int (own_pkv (p0 := (7 : Int32)) (by decide) (by decide))⟩
  · intro i hi
    rcases hi with rfl | rfl | rfl | rfl | rfl | rfl | rfl | rfl
    · exact ⟨⟨by decide, by decide⟩, congrArg Value.int (own_pkv (p0 := (1 : Int32)) (by decide) (by decide))⟩
    · exact ⟨⟨by decide, by decide⟩, congrArg Value.int (own_pkv (p0 := (2 : Int32)) (by decide) (by decide))⟩
    · exact ⟨⟨by decide, by decide⟩, congrArg Value.int (own_pkv (p0 := (3 : Int32)) (by decide) (by decide))⟩
    · exact ⟨⟨by decide, by decide⟩, congrArg Value.int (own_pkv (p0 := (4 : Int32)) (by decide) (by decide))⟩
    · exact ⟨⟨by decide, by decide⟩, congrArg Value.int (own_pkv (p0 := (5 : Int32)) (by decide) (by decide))⟩
    · exact ⟨⟨by decide, by decide⟩, congrArg Value.int (own_pkv (p0 := (6 : Int32)) (by decide) (by decide))⟩
    · exact ⟨⟨by decide, by decide⟩, congrArg Value.int (own_pkv (p0 := (7 : Int32)) (by decide) (by decide))⟩
    · exact ⟨⟨by decide, by decide⟩, congrArg Value.int (own_pkv (p0 := (8 : Int32)) (by decide) (by decide))⟩
  · intro i hi
    rcases hi with rfl | rfl | rfl | rfl | rfl | rfl | rfl | rfl
    · exact ⟨⟨by decide, by decide⟩, congrArg Value.int (own_pkv (p0 := (2 : Int32)) (by decide) (by decide))⟩
    · exact ⟨⟨by decide, by decide⟩, congrArg Value.int (own_pkv (p0 := (3 : Int32)) (by decide) (by decide))⟩
    · exact ⟨⟨by decide, by decide⟩, congrArg Value.int (own_pkv (p0 := (4 : Int32)) (by decide) (by decide))⟩
    · exact ⟨⟨by decide, by decide⟩, congrArg Value.int (own_pkv (p0 := (5 : Int32)) (by decide) (by decide))⟩
    · exact ⟨⟨by decide, by decide⟩, congrArg Value.int (own_pkv (p0 := (6 : Int32)) (by decide) (by decide))⟩
    · exact ⟨⟨by decide, by decide⟩, congrArg Value.int (own_pkv (p0 := (7 : Int32)) (by decide) (by decide))⟩
    · exact ⟨⟨by decide, by decide⟩, congrArg Value.int (own_pkv (p0 := (8 : Int32)) (by decide) (by decide))⟩
    · exact ⟨⟨by decide, by decide⟩, congrArg Value.int (own_pkv (p0 := (9 : Int32)) (by decide) (by decide))⟩
  · intro i hi
    rcases hi with rfl | rfl | rfl | rfl | rfl | rfl | rfl | rfl
    · exact ⟨⟨by decide, by decide⟩, congrArg Value.int (own_pkv (p0 := (3 : Int32)) (by decide) (by decide))⟩
    · exact ⟨⟨by decide, by decide⟩, congrArg Value.int (own_pkv (p0 := (4 : Int32)) (by decide) (by decide))⟩
    · exact ⟨⟨by decide, by decide⟩, congrArg Value.int (own_pkv (p0 := (5 : Int32)) (by decide) (by decide))⟩
    · exact ⟨⟨by decide, by decide⟩, congrArg Value.int (own_pkv (p0 := (6 : Int32)) (by decide) (by decide))⟩
    · exact ⟨⟨by decide, by decide⟩, congrArg Value.int (own_pkv (p0 := (7 : Int32)) (by decide) (by decide))⟩
    · exact ⟨⟨by decide, by decide⟩, congrArg Value.int (own_pkv (p0 := (8 : Int32)) (by decide) (by decide))⟩
    · exact ⟨⟨by decide, by decide⟩, congrArg Value.int (own_pkv (p0 := (9 : Int32)) (by decide) (by decide))⟩
    · exact ⟨⟨by decide, by decide⟩, congrArg Value.int (own_pkv (p0 := (10 : Int32)) (by decide) (by decide))⟩
def Q0c (n0 : Nat) (v : Option Value) (L : List Loc) : Prop := v = some (.int 1) ∧ Fr n0 L
set_option maxRecDepth 65536 in
set_option maxHeartbeats 40000000 in
theorem rm0 (l : Launch) (Z : State) (a0 : Array Value) (hw : ∀ d ∈ tables_1, d.before a0 Z = true) (ws : List Jvm.Cond) (q0 : Int64) (p1 p2 p3 : Int32) (h0 : Heap) (n0 : Nat) (Z0 : n0 ≤ h0.size) :
    MetFree l x (head1 (Jvm.Cond.code x code maxLocals ret :: ws) room_1) (fun aa UU => aa = #[(.long q0), (.int p1), (.int p2), (.int p3)] ∧ Z.Warmed39 UU.vm ∧ UU.heap = h0) (fun _ _ _ _ _ => True) (fun _ UU oo U' => ∃ v L, oo = .returned v ∧ Q0c n0 v L ∧ FrameEnd UU oo U' L room_1.cells room_1.slots) := by
  refine MetFree.of_bodySF (plainFor_of_name pn_0) hisR ?_
  intro p e s m args below meth c s₁ Bd hml0 hP hK
  obtain ⟨rfl, hZ, hh⟩ := hP
  have hx := Bd.exec
  have hby := Bd.bytes
  have hml : c.maxLocals = 12 := hml0
  have hown : s.vm.findClass "com/example/ledgerline/ledgerline/format/GrowingBytesLittleEndianPinLaw" = some m.cls := findClass_of_methodNamed Bd.named
  have hnm := (name_of_methodNamed Bd.named Bd.method).1
  have X0 : Stand p l e room_1 s m #[(.long q0), (.int p1), (.int p2), (.int p3)] below meth c s₁ [] 0 0 := Stand.of_body Bd
  have e0 : s₁.heap = h0 := by rw [← hh, Bd.state]; rfl
  have N0 := Fr.nil n0
  obtain ⟨A0, hA0⟩ : ∃ A, A = s₁.setTop (entryFrame m #[(.long q0), (.int p1), (.int p2), (.int p3)] maxLocals) := ⟨_, rfl⟩
  have G0 : Go p e below A0 (s₁.setTop (mkF m 0 #[.val (.long q0), .second, .val (.int p1), .val (.int p2), .val (.int p3), .unset, .unset, .unset, .unset, .unset, .unset, .unset] [])) := fun tq kq => by rw [hA0]; exact castTop (ef_rm0 m q0 p1 p2 p3) kq
  have G125 : Go p e below A0 (s₁.setTop (mkF m 17 #[.val (.long q0), .second, .val (.int p1), .val (.int p2), .val (.int p3), .val (.int (p2 &&& (3 : Int32))), .val (.int ((p3 &&& (2147483647 : Int32)) % (9 : Int32))), .unset, .unset, .unset, .unset, .unset] [(.int (12 : Int32))])) := fun tq kq => G0 tq (by
    refine XS.iloadN X0.here hx rfl (hb hby at_0) rfl ?_
    show Steps p.tables e below (s₁.setTop (mkF m 1 #[.val (.long q0), .second, .val (.int p1), .val (.int p2), .val (.int p3), .unset, .unset, .unset, .unset, .unset, .unset, .unset] [(.int p2)])) _
    refine XS.iconst X0.here hx rfl (hb hby at_1) ?_
    show Steps p.tables e below (s₁.setTop (mkF m 2 #[.val (.long q0), .second, .val (.int p1), .val (.int p2), .val (.int p3), .unset, .unset, .unset, .unset, .unset, .unset, .unset] [(.int (3 : Int32)), (.int p2)])) _
    refine XS.iand X0.here hx rfl (hb hby at_2) rfl ?_
    show Steps p.tables e below (s₁.setTop (mkF m 3 #[.val (.long q0), .second, .val (.int p1), .val (.int p2), .val (.int p3), .unset, .unset, .unset, .unset, .unset, .unset, .unset] [(.int (p2 &&& (3 : Int32)))])) _
    refine XS.istore X0.here hx rfl (hb hby at_3) rfl (l' := #[.val (.long q0), .second, .val (.int p1), .val (.int p2), .val (.int p3), .val (.int (p2 &&& (3 : Int32))), .unset, .unset, .unset, .unset, .unset, .unset]) rfl ?_
    show Steps p.tables e below (s₁.setTop (mkF m 5 #[.val (.long q0), .second, .val (.int p1), .val (.int p2), .val (.int p3), .val (.int (p2 &&& (3 : Int32))), .unset, .unset, .unset, .unset, .unset, .unset] [])) _
    refine XS.iload X0.here hx rfl (hb hby at_5) rfl ?_
    show Steps p.tables e below (s₁.setTop (mkF m 7 #[.val (.long q0), .second, .val (.int p1), .val (.int p2), .val (.int p3), .val (.int (p2 &&& (3 : Int32))), .unset, .unset, .unset, .unset, .unset, .unset] [(.int p3)])) _
    refine X0.ldcInt hx hown (mvT hZ (hw _ (List.mem_of_getElem? (i := 0) rfl))) (g := (mkF m 7 #[.val (.long q0), .second, .val (.int p1), .val (.int p2), .val (.int p3), .val (.int (p2 &&& (3 : Int32))), .unset, .unset, .unset, .unset, .unset, .unset] [(.int p3)])) rfl (hb hby at_7) _ ?_
    show Steps p.tables e below (s₁.setTop (mkF m 9 #[.val (.long q0), .second, .val (.int p1), .val (.int p2), .val (.int p3), .val (.int (p2 &&& (3 : Int32))), .unset, .unset, .unset, .unset, .unset, .unset] [(.int (2147483647 : Int32)), (.int p3)])) _
    refine XS.iand X0.here hx rfl (hb hby at_9) rfl ?_
    show Steps p.tables e below (s₁.setTop (mkF m 10 #[.val (.long q0), .second, .val (.int p1), .val (.int p2), .val (.int p3), .val (.int (p2 &&& (3 : Int32))), .unset, .unset, .unset, .unset, .unset, .unset] [(.int (p3 &&& (2147483647 : Int32)))])) _
    refine XS.bipush X0.here hx rfl (hb hby at_10) ?_
    show Steps p.tables e below (s₁.setTop (mkF m 12 #[.val (.long q0), .second, .val (.int p1), .val (.int p2), .val (.int p3), .val (.int (p2 &&& (3 : Int32))), .unset, .unset, .unset, .unset, .unset, .unset] [(.int (9 : Int32)), (.int (p3 &&& (2147483647 : Int32)))])) _
    refine iremM X0 hx rfl (hb hby at_12) rfl (by decide) ?_
    show Steps p.tables e below (s₁.setTop (mkF m 13 #[.val (.long q0), .second, .val (.int p1), .val (.int p2), .val (.int p3), .val (.int (p2 &&& (3 : Int32))), .unset, .unset, .unset, .unset, .unset, .unset] [(.int ((p3 &&& (2147483647 : Int32)) % (9 : Int32)))])) _
    refine XS.istore X0.here hx rfl (hb hby at_13) rfl (l' := #[.val (.long q0), .second, .val (.int p1), .val (.int p2), .val (.int p3), .val (.int (p2 &&& (3 : Int32))), .val (.int ((p3 &&& (2147483647 : Int32)) % (9 : Int32))), .unset, .unset, .unset, .unset, .unset]) rfl ?_
    show Steps p.tables e below (s₁.setTop (mkF m 15 #[.val (.long q0), .second, .val (.int p1), .val (.int p2), .val (.int p3), .val (.int (p2 &&& (3 : Int32))), .val (.int ((p3 &&& (2147483647 : Int32)) % (9 : Int32))), .unset, .unset, .unset, .unset, .unset] [])) _
    refine XS.bipush X0.here hx rfl (hb hby at_15) ?_
    show Steps p.tables e below (s₁.setTop (mkF m 17 #[.val (.long q0), .second, .val (.int p1), .val (.int p2), .val (.int p3), .val (.int (p2 &&& (3 : Int32))), .val (.int ((p3 &&& (2147483647 : Int32)) % (9 : Int32))), .unset, .unset, .unset, .unset, .unset] [(.int (12 : Int32))])) _
    exact kq)
  obtain ⟨T126, h126, k126, X126, e126, E126, A126, st126⟩ := newP X0 hx hZ (hw _ (List.mem_of_getElem? (i := 1) rfl)) e0 (g := (mkF m 17 #[.val (.long q0), .second, .val (.int p1), .val (.int p2), .val (.int p3), .val (.int (p2 &&& (3 : Int32))), .val (.int ((p3 &&& (2147483647 : Int32)) % (9 : Int32))), .unset, .unset, .unset, .unset, .unset] [(.int (12 : Int32))])) rfl (hb hby at_17) rfl (by decide) (cap := 12) (by decide) (by decide) (by decide) (by decide)
  obtain ⟨b126, g126⟩ : ∃ z, z = h0.size := ⟨_, rfl⟩
  rw [← g126] at A126 st126
  have sz_b126 : h0.size ≤ b126 := Nat.le_trans (Nat.le_refl h0.size) (Nat.le_of_eq g126.symm)
  have g_b126 : n0 ≤ b126 := Nat.le_trans Z0 (Nat.le_of_eq g126.symm)
  have V126 : Arv Z h126 b126 k126 .byte (12 : Int32) [(.int (0 : Int32)), (.int (0 : Int32)), (.int (0 : Int32)), (.int (0 : Int32)), (.int (0 : Int32)), (.int (0 : Int32)), (.int (0 : Int32)), (.int (0 : Int32)), (.int (0 : Int32)), (.int (0 : Int32)), (.int (0 : Int32)), (.int (0 : Int32))] (.int (0 : Int32)) := (Arv.new A126 (by decide)).pad (pad_rep [] (.int (0 : Int32)) 12)
  have G127 : Go p e below A0 (T126.setTop (mkF m 19 #[.val (.long q0), .second, .val (.int p1), .val (.int p2), .val (.int p3), .val (.int (p2 &&& (3 : Int32))), .val (.int ((p3 &&& (2147483647 : Int32)) % (9 : Int32))), .unset, .unset, .unset, .unset, .unset] [(.ref b126)])) := fun tq kq => G125 tq (st126 _ kq)
  have G128 : Go p e below A0 (T126.setTop (mkF m 29 #[.val (.long q0), .second, .val (.int p1), .val (.int p2), .val (.int p3), .val (.int (p2 &&& (3 : Int32))), .val (.int ((p3 &&& (2147483647 : Int32)) % (9 : Int32))), .val (.ref b126), .unset, .unset, .unset, .unset] [(.int p1), (.long q0), (.int (p2 &&& (3 : Int32))), (.int (0 : Int32)), (.int (0 : Int32)), (.ref b126)])) := fun tq kq => G127 tq (by
    refine XS.astore X126.here hx rfl (hb hby at_19) rfl rfl (l' := #[.val (.long q0), .second, .val (.int p1), .val (.int p2), .val (.int p3), .val (.int (p2 &&& (3 : Int32))), .val (.int ((p3 &&& (2147483647 : Int32)) % (9 : Int32))), .val (.ref b126), .unset, .unset, .unset, .unset]) rfl ?_
    show Steps p.tables e below (T126.setTop (mkF m 21 #[.val (.long q0), .second, .val (.int p1), .val (.int p2), .val (.int p3), .val (.int (p2 &&& (3 : Int32))), .val (.int ((p3 &&& (2147483647 : Int32)) % (9 : Int32))), .val (.ref b126), .unset, .unset, .unset, .unset] [])) _
    refine XS.aload X126.here hx rfl (hb hby at_21) rfl rfl ?_
    show Steps p.tables e below (T126.setTop (mkF m 23 #[.val (.long q0), .second, .val (.int p1), .val (.int p2), .val (.int p3), .val (.int (p2 &&& (3 : Int32))), .val (.int ((p3 &&& (2147483647 : Int32)) % (9 : Int32))), .val (.ref b126), .unset, .unset, .unset, .unset] [(.ref b126)])) _
    refine XS.iconst X126.here hx rfl (hb hby at_23) ?_
    show Steps p.tables e below (T126.setTop (mkF m 24 #[.val (.long q0), .second, .val (.int p1), .val (.int p2), .val (.int p3), .val (.int (p2 &&& (3 : Int32))), .val (.int ((p3 &&& (2147483647 : Int32)) % (9 : Int32))), .val (.ref b126), .unset, .unset, .unset, .unset] [(.int (0 : Int32)), (.ref b126)])) _
    refine XS.iconst X126.here hx rfl (hb hby at_24) ?_
    show Steps p.tables e below (T126.setTop (mkF m 25 #[.val (.long q0), .second, .val (.int p1), .val (.int p2), .val (.int p3), .val (.int (p2 &&& (3 : Int32))), .val (.int ((p3 &&& (2147483647 : Int32)) % (9 : Int32))), .val (.ref b126), .unset, .unset, .unset, .unset] [(.int (0 : Int32)), (.int (0 : Int32)), (.ref b126)])) _
    refine XS.iload X126.here hx rfl (hb hby at_25) rfl ?_
    show Steps p.tables e below (T126.setTop (mkF m 27 #[.val (.long q0), .second, .val (.int p1), .val (.int p2), .val (.int p3), .val (.int (p2 &&& (3 : Int32))), .val (.int ((p3 &&& (2147483647 : Int32)) % (9 : Int32))), .val (.ref b126), .unset, .unset, .unset, .unset] [(.int (p2 &&& (3 : Int32))), (.int (0 : Int32)), (.int (0 : Int32)), (.ref b126)])) _
    refine XS.lloadN X126.here hx rfl (hb hby at_27) rfl ?_
    show Steps p.tables e below (T126.setTop (mkF m 28 #[.val (.long q0), .second, .val (.int p1), .val (.int p2), .val (.int p3), .val (.int (p2 &&& (3 : Int32))), .val (.int ((p3 &&& (2147483647 : Int32)) % (9 : Int32))), .val (.ref b126), .unset, .unset, .unset, .unset] [(.long q0), (.int (p2 &&& (3 : Int32))), (.int (0 : Int32)), (.int (0 : Int32)), (.ref b126)])) _
    refine XS.iloadN X126.here hx rfl (hb hby at_28) rfl ?_
    show Steps p.tables e below (T126.setTop (mkF m 29 #[.val (.long q0), .second, .val (.int p1), .val (.int p2), .val (.int p3), .val (.int (p2 &&& (3 : Int32))), .val (.int ((p3 &&& (2147483647 : Int32)) % (9 : Int32))), .val (.ref b126), .unset, .unset, .unset, .unset] [(.int p1), (.long q0), (.int (p2 &&& (3 : Int32))), (.int (0 : Int32)), (.int (0 : Int32)), (.ref b126)])) _
    exact kq)
  have f130 := (Nat.le_trans Z0 E126.1)
  obtain ⟨_, _, ⟨T129, L129, k129, n129⟩, -, X129, ⟨Lc129, hQ129, l129, y129, z129⟩, st129⟩ := Jvm.LawKit.callS X126 hx (y := (⟨"com/example/ledgerline/ledgerline/format/GrowingBytesLittleEndianPinLaw", "pick", "(IIJI)B"⟩ : MethodName)) hown (mvT hZ (hw _ (List.mem_of_getElem? (i := 2) rfl))) (mvT hZ (hw _ (List.mem_of_getElem? (i := 3) rfl))) (mvT hZ (hw _ (List.mem_of_getElem? (i := 4) rfl))) (mvT hZ (hw _ (List.mem_of_getElem? (i := 5) rfl))) (by decide) (backOf (W := 2) (rm1 l Z a0 hw [] (0 : Int32) (p2 &&& (3 : Int32)) q0 p1 h126 n0 f130) hZ (hw _ (List.mem_of_getElem? (i := 5) rfl)) (hw _ (List.mem_of_getElem? (i := 4) rfl)) (by decide) (by decide)) (g := (mkF m 29 #[.val (.long q0), .second, .val (.int p1), .val (.int p2), .val (.int p3), .val (.int (p2 &&& (3 : Int32))), .val (.int ((p3 &&& (2147483647 : Int32)) % (9 : Int32))), .val (.ref b126), .unset, .unset, .unset, .unset] [(.int p1), (.long q0), (.int (p2 &&& (3 : Int32))), (.int (0 : Int32)), (.int (0 : Int32)), (.ref b126)])) rfl (by rw [hml]; rfl) (argsL := [(.int (0 : Int32)), (.int (p2 &&& (3 : Int32))), (.long q0), (.int p1)]) (rest := [(.int (0 : Int32)), (.ref b126)]) (lenOf pd_0 rfl) rfl (by show 2 * 0 + _ ≤ _; exact Nat.le_of_eq rfl) (hb hby at_29) (fun _ _ => ⟨rfl, e126, (by decide : 1 + 0 ≤ _), (by decide : 12 + 0 ≤ _)⟩)
  dsimp only [Pt.U, Pt.locs, Pt.cells, Pt.slots] at X129 l129 y129 z129 st129 hQ129
  obtain rfl : k129 = 1 := y129
  obtain rfl : n129 = 12 := z129
  obtain ⟨rfl, N129q, e129⟩ := hQ129
  have N129 : Fr n0 L129 := by rw [l129]; exact Fr.app N0 N129q
  have G131 : Go p e below A0 (T129.setTop (mkF m 32 #[.val (.long q0), .second, .val (.int p1), .val (.int p2), .val (.int p3), .val (.int (p2 &&& (3 : Int32))), .val (.int ((p3 &&& (2147483647 : Int32)) % (9 : Int32))), .val (.ref b126), .unset, .unset, .unset, .unset] [(.int (own_pk (0 : Int32) (p2 &&& (3 : Int32)) q0 p1)), (.int (0 : Int32)), (.ref b126)])) := fun tq kq => G128 tq (st129 _ kq)
  obtain ⟨cl132, Ar132, q132, S132, M132, H132, Gf132⟩ := id V126
  have hi133 : ¬ ((0 : Int32) < 0 ∨ cl132.slots.size ≤ ((0 : Int32)).toNatClampNeg) := (inb_of S132 ⟨by decide, by decide⟩)
  obtain ⟨T134, h134, X134, e134, W134, st134⟩ := stB X129 hx hZ e129 Ar132 (j := (0 : Int32)) hi133 (g := (mkF m 32 #[.val (.long q0), .second, .val (.int p1), .val (.int p2), .val (.int p3), .val (.int (p2 &&& (3 : Int32))), .val (.int ((p3 &&& (2147483647 : Int32)) % (9 : Int32))), .val (.ref b126), .unset, .unset, .unset, .unset] [(.int (own_pk (0 : Int32) (p2 &&& (3 : Int32)) q0 p1)), (.int (0 : Int32)), (.ref b126)])) rfl rfl (hb hby at_32)
  rw [show nar .byte (own_pk (0 : Int32) (p2 &&& (3 : Int32)) q0 p1) = (own_pk (0 : Int32) (p2 &&& (3 : Int32)) q0 p1) from own_pkn _ _ _ _] at W134
  have N134 := Fr.snoc X134 N129 g_b126
  have V134 := Arv.set Ar132 q132 S132 M132 H132 Gf132 (own_pkf _ _ _ _) W134 0 rfl (Nat.le_of_ble_eq_true rfl)
  have V134' : Arv Z h134 b126 k126 .byte (12 : Int32) [(.int (own_pk (0 : Int32) (p2 &&& (3 : Int32)) q0 p1)), (.int (0 : Int32)), (.int (0 : Int32)), (.int (0 : Int32)), (.int (0 : Int32)), (.int (0 : Int32)), (.int (0 : Int32)), (.int (0 : Int32)), (.int (0 : Int32)), (.int (0 : Int32)), (.int (0 : Int32)), (.int (0 : Int32))] (.int (0 : Int32)) := by exact V134
  have G135 : Go p e below A0 (T134.setTop (mkF m 33 #[.val (.long q0), .second, .val (.int p1), .val (.int p2), .val (.int p3), .val (.int (p2 &&& (3 : Int32))), .val (.int ((p3 &&& (2147483647 : Int32)) % (9 : Int32))), .val (.ref b126), .unset, .unset, .unset, .unset] [])) := fun tq kq => G131 tq (st134 _ kq)
  have G136 : Go p e below A0 (T134.setTop (mkF m 41 #[.val (.long q0), .second, .val (.int p1), .val (.int p2), .val (.int p3), .val (.int (p2 &&& (3 : Int32))), .val (.int ((p3 &&& (2147483647 : Int32)) % (9 : Int32))), .val (.ref b126), .unset, .unset, .unset, .unset] [(.int p1), (.long q0), (.int (p2 &&& (3 : Int32))), (.int (1 : Int32)), (.int (1 : Int32)), (.ref b126)])) := fun tq kq => G135 tq (by
    refine XS.aload X134.here hx rfl (hb hby at_33) rfl rfl ?_
    show Steps p.tables e below (T134.setTop (mkF m 35 #[.val (.long q0), .second, .val (.int p1), .val (.int p2), .val (.int p3), .val (.int (p2 &&& (3 : Int32))), .val (.int ((p3 &&& (2147483647 : Int32)) % (9 : Int32))), .val (.ref b126), .unset, .unset, .unset, .unset] [(.ref b126)])) _
    refine XS.iconst X134.here hx rfl (hb hby at_35) ?_
    show Steps p.tables e below (T134.setTop (mkF m 36 #[.val (.long q0), .second, .val (.int p1), .val (.int p2), .val (.int p3), .val (.int (p2 &&& (3 : Int32))), .val (.int ((p3 &&& (2147483647 : Int32)) % (9 : Int32))), .val (.ref b126), .unset, .unset, .unset, .unset] [(.int (1 : Int32)), (.ref b126)])) _
    refine XS.iconst X134.here hx rfl (hb hby at_36) ?_
    show Steps p.tables e below (T134.setTop (mkF m 37 #[.val (.long q0), .second, .val (.int p1), .val (.int p2), .val (.int p3), .val (.int (p2 &&& (3 : Int32))), .val (.int ((p3 &&& (2147483647 : Int32)) % (9 : Int32))), .val (.ref b126), .unset, .unset, .unset, .unset] [(.int (1 : Int32)), (.int (1 : Int32)), (.ref b126)])) _
    refine XS.iload X134.here hx rfl (hb hby at_37) rfl ?_
    show Steps p.tables e below (T134.setTop (mkF m 39 #[.val (.long q0), .second, .val (.int p1), .val (.int p2), .val (.int p3), .val (.int (p2 &&& (3 : Int32))), .val (.int ((p3 &&& (2147483647 : Int32)) % (9 : Int32))), .val (.ref b126), .unset, .unset, .unset, .unset] [(.int (p2 &&& (3 : Int32))), (.int (1 : Int32)), (.int (1 : Int32)), (.ref b126)])) _
    refine XS.lloadN X134.here hx rfl (hb hby at_39) rfl ?_
    show Steps p.tables e below (T134.setTop (mkF m 40 #[.val (.long q0), .second, .val (.int p1), .val (.int p2), .val (.int p3), .val (.int (p2 &&& (3 : Int32))), .val (.int ((p3 &&& (2147483647 : Int32)) % (9 : Int32))), .val (.ref b126), .unset, .unset, .unset, .unset] [(.long q0), (.int (p2 &&& (3 : Int32))), (.int (1 : Int32)), (.int (1 : Int32)), (.ref b126)])) _
    refine XS.iloadN X134.here hx rfl (hb hby at_40) rfl ?_
    show Steps p.tables e below (T134.setTop (mkF m 41 #[.val (.long q0), .second, .val (.int p1), .val (.int p2), .val (.int p3), .val (.int (p2 &&& (3 : Int32))), .val (.int ((p3 &&& (2147483647 : Int32)) % (9 : Int32))), .val (.ref b126), .unset, .unset, .unset, .unset] [(.int p1), (.long q0), (.int (p2 &&& (3 : Int32))), (.int (1 : Int32)), (.int (1 : Int32)), (.ref b126)])) _
    exact kq)
  have f138 := (Nat.le_trans f130 (Keep.of_wr W134).1)
  obtain ⟨_, _, ⟨T137, L137, k137, n137⟩, -, X137, ⟨Lc137, hQ137, l137, y137, z137⟩, st137⟩ := Jvm.LawKit.callS X134 hx (y := (⟨"com/example/ledgerline/ledgerline/format/GrowingBytesLittleEndianPinLaw", "pick", "(IIJI)B"⟩ : MethodName)) hown (mvT hZ (hw _ (List.mem_of_getElem? (i := 2) rfl))) (mvT hZ (hw _ (List.mem_of_getElem? (i := 3) rfl))) (mvT hZ (hw _ (List.mem_of_getElem? (i := 4) rfl))) (mvT hZ (hw _ (List.mem_of_getElem? (i := 5) rfl))) (by decide) (backOf (W := 2) (rm1 l Z a0 hw [] (1 : Int32) (p2 &&& (3 : Int32)) q0 p1 h134 n0 f138) hZ (hw _ (List.mem_of_getElem? (i := 5) rfl)) (hw _ (List.mem_of_getElem? (i := 4) rfl)) (by decide) (by decide)) (g := (mkF m 41 #[.val (.long q0), .second, .val (.int p1), .val (.int p2), .val (.int p3), .val (.int (p2 &&& (3 : Int32))), .val (.int ((p3 &&& (2147483647 : Int32)) % (9 : Int32))), .val (.ref b126), .unset, .unset, .unset, .unset] [(.int p1), (.long q0), (.int (p2 &&& (3 : Int32))), (.int (1 : Int32)), (.int (1 : Int32)), (.ref b126)])) rfl (by rw [hml]; rfl) (argsL := [(.int (1 : Int32)), (.int (p2 &&& (3 : Int32))), (.long q0), (.int p1)]) (rest := [(.int (1 : Int32)), (.ref b126)]) (lenOf pd_0 rfl) rfl (by show 2 * 0 + _ ≤ _; exact Nat.le_of_eq rfl) (hb hby at_41) (fun _ _ => ⟨rfl, e134, (by decide : 1 + 0 ≤ _), (by decide : 12 + 0 ≤ _)⟩)
  dsimp only [Pt.U, Pt.locs, Pt.cells, Pt.slots] at X137 l137 y137 z137 st137 hQ137
  obtain rfl : k137 = 1 := y137
  obtain rfl : n137 = 12 := z137
  obtain ⟨rfl, N137q, e137⟩ := hQ137
  have N137 : Fr n0 L137 := by rw [l137]; exact Fr.app N134 N137q
  have G139 : Go p e below A0 (T137.setTop (mkF m 44 #[.val (.long q0), .second, .val (.int p1), .val (.int p2), .val (.int p3), .val (.int (p2 &&& (3 : Int32))), .val (.int ((p3 &&& (2147483647 : Int32)) % (9 : Int32))), .val (.ref b126), .unset, .unset, .unset, .unset] [(.int (own_pk (1 : Int32) (p2 &&& (3 : Int32)) q0 p1)), (.int (1 : Int32)), (.ref b126)])) := fun tq kq => G136 tq (st137 _ kq)
  obtain ⟨cl140, Ar140, q140, S140, M140, H140, Gf140⟩ := id V134'
  have hi141 : ¬ ((1 : Int32) < 0 ∨ cl140.slots.size ≤ ((1 : Int32)).toNatClampNeg) := (inb_of S140 ⟨by decide, by decide⟩)
  obtain ⟨T142, h142, X142, e142, W142, st142⟩ := stB X137 hx hZ e137 Ar140 (j := (1 : Int32)) hi141 (g := (mkF m 44 #[.val (.long q0), .second, .val (.int p1), .val (.int p2), .val (.int p3), .val (.int (p2 &&& (3 : Int32))), .val (.int ((p3 &&& (2147483647 : Int32)) % (9 : Int32))), .val (.ref b126), .unset, .unset, .unset, .unset] [(.int (own_pk (1 : Int32) (p2 &&& (3 : Int32)) q0 p1)), (.int (1 : Int32)), (.ref b126)])) rfl rfl (hb hby at_44)
  rw [show nar .byte (own_pk (1 : Int32) (p2 &&& (3 : Int32)) q0 p1) = (own_pk (1 : Int32) (p2 &&& (3 : Int32)) q0 p1) from own_pkn _ _ _ _] at W142
  have N142 := Fr.snoc X142 N137 g_b126
  have V142 := Arv.set Ar140 q140 S140 M140 H140 Gf140 (own_pkf _ _ _ _) W142 1 rfl (Nat.le_of_ble_eq_true rfl)
  have V142' : Arv Z h142 b126 k126 .byte (12 : Int32) [(.int (own_pk (0 : Int32) (p2 &&& (3 : Int32)) q0 p1)), (.int (own_pk (1 : Int32) (p2 &&& (3 : Int32)) q0 p1)), (.int (0 : Int32)), (.int (0 : Int32)), (.int (0 : Int32)), (.int (0 : Int32)), (.int (0 : Int32)), (.int (0 : Int32)), (.int (0 : Int32)), (.int (0 : Int32)), (.int (0 : Int32)), (.int (0 : Int32))] (.int (0 : Int32)) := by exact V142
  have G143 : Go p e below A0 (T142.setTop (mkF m 45 #[.val (.long q0), .second, .val (.int p1), .val (.int p2), .val (.int p3), .val (.int (p2 &&& (3 : Int32))), .val (.int ((p3 &&& (2147483647 : Int32)) % (9 : Int32))), .val (.ref b126), .unset, .unset, .unset, .unset] [])) := fun tq kq => G139 tq (st142 _ kq)
  have G144 : Go p e below A0 (T142.setTop (mkF m 53 #[.val (.long q0), .second, .val (.int p1), .val (.int p2), .val (.int p3), .val (.int (p2 &&& (3 : Int32))), .val (.int ((p3 &&& (2147483647 : Int32)) % (9 : Int32))), .val (.ref b126), .unset, .unset, .unset, .unset] [(.int p1), (.long q0), (.int (p2 &&& (3 : Int32))), (.int (2 : Int32)), (.int (2 : Int32)), (.ref b126)])) := fun tq kq => G143 tq (by
    refine XS.aload X142.here hx rfl (hb hby at_45) rfl rfl ?_
    show Steps p.tables e below (T142.setTop (mkF m 47 #[.val (.long q0), .second, .val (.int p1), .val (.int p2), .val (.int p3), .val (.int (p2 &&& (3 : Int32))), .val (.int ((p3 &&& (2147483647 : Int32)) % (9 : Int32))), .val (.ref b126), .unset, .unset, .unset, .unset] [(.ref b126)])) _
    refine XS.iconst X142.here hx rfl (hb hby at_47) ?_
    show Steps p.tables e below (T142.setTop (mkF m 48 #[.val (.long q0), .second, .val (.int p1), .val (.int p2), .val (.int p3), .val (.int (p2 &&& (3 : Int32))), .val (.int ((p3 &&& (2147483647 : Int32)) % (9 : Int32))), .val (.ref b126), .unset, .unset, .unset, .unset] [(.int (2 : Int32)), (.ref b126)])) _
    refine XS.iconst X142.here hx rfl (hb hby at_48) ?_
    show Steps p.tables e below (T142.setTop (mkF m 49 #[.val (.long q0), .second, .val (.int p1), .val (.int p2), .val (.int p3), .val (.int (p2 &&& (3 : Int32))), .val (.int ((p3 &&& (2147483647 : Int32)) % (9 : Int32))), .val (.ref b126), .unset, .unset, .unset, .unset] [(.int (2 : Int32)), (.int (2 : Int32)), (.ref b126)])) _
    refine XS.iload X142.here hx rfl (hb hby at_49) rfl ?_
    show Steps p.tables e below (T142.setTop (mkF m 51 #[.val (.long q0), .second, .val (.int p1), .val (.int p2), .val (.int p3), .val (.int (p2 &&& (3 : Int32))), .val (.int ((p3 &&& (2147483647 : Int32)) % (9 : Int32))), .val (.ref b126), .unset, .unset, .unset, .unset] [(.int (p2 &&& (3 : Int32))), (.int (2 : Int32)), (.int (2 : Int32)), (.ref b126)])) _
    refine XS.lloadN X142.here hx rfl (hb hby at_51) rfl ?_
    show Steps p.tables e below (T142.setTop (mkF m 52 #[.val (.long q0), .second, .val (.int p1), .val (.int p2), .val (.int p3), .val (.int (p2 &&& (3 : Int32))), .val (.int ((p3 &&& (2147483647 : Int32)) % (9 : Int32))), .val (.ref b126), .unset, .unset, .unset, .unset] [(.long q0), (.int (p2 &&& (3 : Int32))), (.int (2 : Int32)), (.int (2 : Int32)), (.ref b126)])) _
    refine XS.iloadN X142.here hx rfl (hb hby at_52) rfl ?_
    show Steps p.tables e below (T142.setTop (mkF m 53 #[.val (.long q0), .second, .val (.int p1), .val (.int p2), .val (.int p3), .val (.int (p2 &&& (3 : Int32))), .val (.int ((p3 &&& (2147483647 : Int32)) % (9 : Int32))), .val (.ref b126), .unset, .unset, .unset, .unset] [(.int p1), (.long q0), (.int (p2 &&& (3 : Int32))), (.int (2 : Int32)), (.int (2 : Int32)), (.ref b126)])) _
    exact kq)
  have f146 := (Nat.le_trans f138 (Keep.of_wr W142).1)
  obtain ⟨_, _, ⟨T145, L145, k145, n145⟩, -, X145, ⟨Lc145, hQ145, l145, y145, z145⟩, st145⟩ := Jvm.LawKit.callS X142 hx (y := (⟨"com/example/ledgerline/ledgerline/format/GrowingBytesLittleEndianPinLaw", "pick", "(IIJI)B"⟩ : MethodName)) hown (mvT hZ (hw _ (List.mem_of_getElem? (i := 2) rfl))) (mvT hZ (hw _ (List.mem_of_getElem? (i := 3) rfl))) (mvT hZ (hw _ (List.mem_of_getElem? (i := 4) rfl))) (mvT hZ (hw _ (List.mem_of_getElem? (i := 5) rfl))) (by decide) (backOf (W := 2) (rm1 l Z a0 hw [] (2 : Int32) (p2 &&& (3 : Int32)) q0 p1 h142 n0 f146) hZ (hw _ (List.mem_of_getElem? (i := 5) rfl)) (hw _ (List.mem_of_getElem? (i := 4) rfl)) (by decide) (by decide)) (g := (mkF m 53 #[.val (.long q0), .second, .val (.int p1), .val (.int p2), .val (.int p3), .val (.int (p2 &&& (3 : Int32))), .val (.int ((p3 &&& (2147483647 : Int32)) % (9 : Int32))), .val (.ref b126), .unset, .unset, .unset, .unset] [(.int p1), (.long q0), (.int (p2 &&& (3 : Int32))), (.int (2 : Int32)), (.int (2 : Int32)), (.ref b126)])) rfl (by rw [hml]; rfl) (argsL := [(.int (2 : Int32)), (.int (p2 &&& (3 : Int32))), (.long q0), (.int p1)]) (rest := [(.int (2 : Int32)), (.ref b126)]) (lenOf pd_0 rfl) rfl (by show 2 * 0 + _ ≤ _; exact Nat.le_of_eq rfl) (hb hby at_53) (fun _ _ => ⟨rfl, e142, (by decide : 1 + 0 ≤ _), (by decide : 12 + 0 ≤ _)⟩)
  dsimp only [Pt.U, Pt.locs, Pt.cells, Pt.slots] at X145 l145 y145 z145 st145 hQ145
  obtain rfl : k145 = 1 := y145
  obtain rfl : n145 = 12 := z145
  obtain ⟨rfl, N145q, e145⟩ := hQ145
  have N145 : Fr n0 L145 := by rw [l145]; exact Fr.app N142 N145q
  have G147 : Go p e below A0 (T145.setTop (mkF m 56 #[.val (.long q0), .second, .val (.int p1), .val (.int p2), .val (.int p3), .val (.int (p2 &&& (3 : Int32))), .val (.int ((p3 &&& (2147483647 : Int32)) % (9 : Int32))), .val (.ref b126), .unset, .unset, .unset, .unset] [(.int (own_pk (2 : Int32) (p2 &&& (3 : Int32)) q0 p1)), (.int (2 : Int32)), (.ref b126)])) := fun tq kq => G144 tq (st145 _ kq)
  obtain ⟨cl148, Ar148, q148, S148, M148, H148, Gf148⟩ := id V142'
  have hi149 : ¬ ((2 : Int32) < 0 ∨ cl148.slots.size ≤ ((2 : Int32)).toNatClampNeg) := (inb_of S148 ⟨by decide, by decide⟩)
  obtain ⟨T150, h150, X150, e150, W150, st150⟩ := stB X145 hx hZ e145 Ar148 (j := (2 : Int32)) hi149 (g := (mkF m 56 #[.val (.long q0), .second, .val (.int p1), .val (.int p2), .val (.int p3), .val (.int (p2 &&& (3 : Int32))), .val (.int ((p3 &&& (2147483647 : Int32)) % (9 : Int32))), .val (.ref b126), .unset, .unset, .unset, .unset] [(.int (own_pk (2 : Int32) (p2 &&& (3 : Int32)) q0 p1)), (.int (2 : Int32)), (.ref b126)])) rfl rfl (hb hby at_56)
  rw [show nar .byte (own_pk (2 : Int32) (p2 &&& (3 : Int32)) q0 p1) = (own_pk (2 : Int32) (p2 &&& (3 : Int32)) q0 p1) from own_pkn _ _ _ _] at W150
  have N150 := Fr.snoc X150 N145 g_b126
  have V150 := Arv.set Ar148 q148 S148 M148 H148 Gf148 (own_pkf _ _ _ _) W150 2 rfl (Nat.le_of_ble_eq_true rfl)
  have V150' : Arv Z h150 b126 k126 .byte (12 : Int32) [(.int (own_pk (0 : Int32) (p2 &&& (3 : Int32)) q0 p1)), (.int (own_pk (1 : Int32) (p2 &&& (3 : Int32)) q0 p1)), (.int (own_pk (2 : Int32) (p2 &&& (3 : Int32)) q0 p1)), (.int (0 : Int32)), (.int (0 : Int32)), (.int (0 : Int32)), (.int (0 : Int32)), (.int (0 : Int32)), (.int (0 : Int32)), (.int (0 : Int32)), (.int (0 : Int32)), (.int (0 : Int32))] (.int (0 : Int32)) := by exact V150
  have G151 : Go p e below A0 (T150.setTop (mkF m 57 #[.val (.long q0), .second, .val (.int p1), .val (.int p2), .val (.int p3), .val (.int (p2 &&& (3 : Int32))), .val (.int ((p3 &&& (2147483647 : Int32)) % (9 : Int32))), .val (.ref b126), .unset, .unset, .unset, .unset] [])) := fun tq kq => G147 tq (st150 _ kq)
  have G152 : Go p e below A0 (T150.setTop (mkF m 65 #[.val (.long q0), .second, .val (.int p1), .val (.int p2), .val (.int p3), .val (.int (p2 &&& (3 : Int32))), .val (.int ((p3 &&& (2147483647 : Int32)) % (9 : Int32))), .val (.ref b126), .unset, .unset, .unset, .unset] [(.int p1), (.long q0), (.int (p2 &&& (3 : Int32))), (.int (3 : Int32)), (.int (3 : Int32)), (.ref b126)])) := fun tq kq => G151 tq (by
    refine XS.aload X150.here hx rfl (hb hby at_57) rfl rfl ?_
    show Steps p.tables e below (T150.setTop (mkF m 59 #[.val (.long q0), .second, .val (.int p1), .val (.int p2), .val (.int p3), .val (.int (p2 &&& (3 : Int32))), .val (.int ((p3 &&& (2147483647 : Int32)) % (9 : Int32))), .val (.ref b126), .unset, .unset, .unset, .unset] [(.ref b126)])) _
    refine XS.iconst X150.here hx rfl (hb hby at_59) ?_
    show Steps p.tables e below (T150.setTop (mkF m 60 #[.val (.long q0), .second, .val (.int p1), .val (.int p2), .val (.int p3), .val (.int (p2 &&& (3 : Int32))), .val (.int ((p3 &&& (2147483647 : Int32)) % (9 : Int32))), .val (.ref b126), .unset, .unset, .unset, .unset] [(.int (3 : Int32)), (.ref b126)])) _
    refine XS.iconst X150.here hx rfl (hb hby at_60) ?_
    show Steps p.tables e below (T150.setTop (mkF m 61 #[.val (.long q0), .second, .val (.int p1), .val (.int p2), .val (.int p3), .val (.int (p2 &&& (3 : Int32))), .val (.int ((p3 &&& (2147483647 : Int32)) % (9 : Int32))), .val (.ref b126), .unset, .unset, .unset, .unset] [(.int (3 : Int32)), (.int (3 : Int32)), (.ref b126)])) _
    refine XS.iload X150.here hx rfl (hb hby at_61) rfl ?_
    show Steps p.tables e below (T150.setTop (mkF m 63 #[.val (.long q0), .second, .val (.int p1), .val (.int p2), .val (.int p3), .val (.int (p2 &&& (3 : Int32))), .val (.int ((p3 &&& (2147483647 : Int32)) % (9 : Int32))), .val (.ref b126), .unset, .unset, .unset, .unset] [(.int (p2 &&& (3 : Int32))), (.int (3 : Int32)), (.int (3 : Int32)), (.ref b126)])) _
    refine XS.lloadN X150.here hx rfl (hb hby at_63) rfl ?_
    show Steps p.tables e below (T150.setTop (mkF m 64 #[.val (.long q0), .second, .val (.int p1), .val (.int p2), .val (.int p3), .val (.int (p2 &&& (3 : Int32))), .val (.int ((p3 &&& (2147483647 : Int32)) % (9 : Int32))), .val (.ref b126), .unset, .unset, .unset, .unset] [(.long q0), (.int (p2 &&& (3 : Int32))), (.int (3 : Int32)), (.int (3 : Int32)), (.ref b126)])) _
    refine XS.iloadN X150.here hx rfl (hb hby at_64) rfl ?_
    show Steps p.tables e below (T150.setTop (mkF m 65 #[.val (.long q0), .second, .val (.int p1), .val (.int p2), .val (.int p3), .val (.int (p2 &&& (3 : Int32))), .val (.int ((p3 &&& (2147483647 : Int32)) % (9 : Int32))), .val (.ref b126), .unset, .unset, .unset, .unset] [(.int p1), (.long q0), (.int (p2 &&& (3 : Int32))), (.int (3 : Int32)), (.int (3 : Int32)), (.ref b126)])) _
    exact kq)
  have f154 := (Nat.le_trans f146 (Keep.of_wr W150).1)
  obtain ⟨_, _, ⟨T153, L153, k153, n153⟩, -, X153, ⟨Lc153, hQ153, l153, y153, z153⟩, st153⟩ := Jvm.LawKit.callS X150 hx (y := (⟨"com/example/ledgerline/ledgerline/format/GrowingBytesLittleEndianPinLaw", "pick", "(IIJI)B"⟩ : MethodName)) hown (mvT hZ (hw _ (List.mem_of_getElem? (i := 2) rfl))) (mvT hZ (hw _ (List.mem_of_getElem? (i := 3) rfl))) (mvT hZ (hw _ (List.mem_of_getElem? (i := 4) rfl))) (mvT hZ (hw _ (List.mem_of_getElem? (i := 5) rfl))) (by decide) (backOf (W := 2) (rm1 l Z a0 hw [] (3 : Int32) (p2 &&& (3 : Int32)) q0 p1 h150 n0 f154) hZ (hw _ (List.mem_of_getElem? (i := 5) rfl)) (hw _ (List.mem_of_getElem? (i := 4) rfl)) (by decide) (by decide)) (g := (mkF m 65 #[.val (.long q0), .second, .val (.int p1), .val (.int p2), .val (.int p3), .val (.int (p2 &&& (3 : Int32))), .val (.int ((p3 &&& (2147483647 : Int32)) % (9 : Int32))), .val (.ref b126), .unset, .unset, .unset, .unset] [(.int p1), (.long q0), (.int (p2 &&& (3 : Int32))), (.int (3 : Int32)), (.int (3 : Int32)), (.ref b126)])) rfl (by rw [hml]; rfl) (argsL := [(.int (3 : Int32)), (.int (p2 &&& (3 : Int32))), (.long q0), (.int p1)]) (rest := [(.int (3 : Int32)), (.ref b126)]) (lenOf pd_0 rfl) rfl (by show 2 * 0 + _ ≤ _; exact Nat.le_of_eq rfl) (hb hby at_65) (fun _ _ => ⟨rfl, e150, (by decide : 1 + 0 ≤ _), (by decide : 12 + 0 ≤ _)⟩)
  dsimp only [Pt.U, Pt.locs, Pt.cells, Pt.slots] at X153 l153 y153 z153 st153 hQ153
  obtain rfl : k153 = 1 := y153
  obtain rfl : n153 = 12 := z153
  obtain ⟨rfl, N153q, e153⟩ := hQ153
  have N153 : Fr n0 L153 := by rw [l153]; exact Fr.app N150 N153q
  have G155 : Go p e below A0 (T153.setTop (mkF m 68 #[.val (.long q0), .second, .val (.int p1), .val (.int p2), .val (.int p3), .val (.int (p2 &&& (3 : Int32))), .val (.int ((p3 &&& (2147483647 : Int32)) % (9 : Int32))), .val (.ref b126), .unset, .unset, .unset, .unset] [(.int (own_pk (3 : Int32) (p2 &&& (3 : Int32)) q0 p1)), (.int (3 : Int32)), (.ref b126)])) := fun tq kq => G152 tq (st153 _ kq)
  obtain ⟨cl156, Ar156, q156, S156, M156, H156, Gf156⟩ := id V150'
  have hi157 : ¬ ((3 : Int32) < 0 ∨ cl156.slots.size ≤ ((3 : Int32)).toNatClampNeg) := (inb_of S156 ⟨by decide, by decide⟩)
  obtain ⟨T158, h158, X158, e158, W158, st158⟩ := stB X153 hx hZ e153 Ar156 (j := (3 : Int32)) hi157 (g := (mkF m 68 #[.val (.long q0), .second, .val (.int p1), .val (.int p2), .val (.int p3), .val (.int (p2 &&& (3 : Int32))), .val (.int ((p3 &&& (2147483647 : Int32)) % (9 : Int32))), .val (.ref b126), .unset, .unset, .unset, .unset] [(.int (own_pk (3 : Int32) (p2 &&& (3 : Int32)) q0 p1)), (.int (3 : Int32)), (.ref b126)])) rfl rfl (hb hby at_68)
  rw [show nar .byte (own_pk (3 : Int32) (p2 &&& (3 : Int32)) q0 p1) = (own_pk (3 : Int32) (p2 &&& (3 : Int32)) q0 p1) from own_pkn _ _ _ _] at W158
  have N158 := Fr.snoc X158 N153 g_b126
  have V158 := Arv.set Ar156 q156 S156 M156 H156 Gf156 (own_pkf _ _ _ _) W158 3 rfl (Nat.le_of_ble_eq_true rfl)
  have V158' : Arv Z h158 b126 k126 .byte (12 : Int32) [(.int (own_pk (0 : Int32) (p2 &&& (3 : Int32)) q0 p1)), (.int (own_pk (1 : Int32) (p2 &&& (3 : Int32)) q0 p1)), (.int (own_pk (2 : Int32) (p2 &&& (3 : Int32)) q0 p1)), (.int (own_pk (3 : Int32) (p2 &&& (3 : Int32)) q0 p1)), (.int (0 : Int32)), (.int (0 : Int32)), (.int (0 : Int32)), (.int (0 : Int32)), (.int (0 : Int32)), (.int (0 : Int32)), (.int (0 : Int32)), (.int (0 : Int32))] (.int (0 : Int32)) := by exact V158
  have G159 : Go p e below A0 (T158.setTop (mkF m 69 #[.val (.long q0), .second, .val (.int p1), .val (.int p2), .val (.int p3), .val (.int (p2 &&& (3 : Int32))), .val (.int ((p3 &&& (2147483647 : Int32)) % (9 : Int32))), .val (.ref b126), .unset, .unset, .unset, .unset] [])) := fun tq kq => G155 tq (st158 _ kq)
  have G160 : Go p e below A0 (T158.setTop (mkF m 77 #[.val (.long q0), .second, .val (.int p1), .val (.int p2), .val (.int p3), .val (.int (p2 &&& (3 : Int32))), .val (.int ((p3 &&& (2147483647 : Int32)) % (9 : Int32))), .val (.ref b126), .unset, .unset, .unset, .unset] [(.int p1), (.long q0), (.int (p2 &&& (3 : Int32))), (.int (4 : Int32)), (.int (4 : Int32)), (.ref b126)])) := fun tq kq => G159 tq (by
    refine XS.aload X158.here hx rfl (hb hby at_69) rfl rfl ?_
    show Steps p.tables e below (T158.setTop (mkF m 71 #[.val (.long q0), .second, .val (.int p1), .val (.int p2), .val (.int p3), .val (.int (p2 &&& (3 : Int32))), .val (.int ((p3 &&& (2147483647 : Int32)) % (9 : Int32))), .val (.ref b126), .unset, .unset, .unset, .unset] [(.ref b126)])) _
    refine XS.iconst X158.here hx rfl (hb hby at_71) ?_
    show Steps p.tables e below (T158.setTop (mkF m 72 #[.val (.long q0), .second, .val (.int p1), .val (.int p2), .val (.int p3), .val (.int (p2 &&& (3 : Int32))), .val (.int ((p3 &&& (2147483647 : Int32)) % (9 : Int32))), .val (.ref b126), .unset, .unset, .unset, .unset] [(.int (4 : Int32)), (.ref b126)])) _
    refine XS.iconst X158.here hx rfl (hb hby at_72) ?_
    show Steps p.tables e below (T158.setTop (mkF m 73 #[.val (.long q0), .second, .val (.int p1), .val (.int p2), .val (.int p3), .val (.int (p2 &&& (3 : Int32))), .val (.int ((p3 &&& (2147483647 : Int32)) % (9 : Int32))), .val (.ref b126), .unset, .unset, .unset, .unset] [(.int (4 : Int32)), (.int (4 : Int32)), (.ref b126)])) _
    refine XS.iload X158.here hx rfl (hb hby at_73) rfl ?_
    show Steps p.tables e below (T158.setTop (mkF m 75 #[.val (.long q0), .second, .val (.int p1), .val (.int p2), .val (.int p3), .val (.int (p2 &&& (3 : Int32))), .val (.int ((p3 &&& (2147483647 : Int32)) % (9 : Int32))), .val (.ref b126), .unset, .unset, .unset, .unset] [(.int (p2 &&& (3 : Int32))), (.int (4 : Int32)), (.int (4 : Int32)), (.ref b126)])) _
    refine XS.lloadN X158.here hx rfl (hb hby at_75) rfl ?_
    show Steps p.tables e below (T158.setTop (mkF m 76 #[.val (.long q0), .second, .val (.int p1), .val (.int p2), .val (.int p3), .val (.int (p2 &&& (3 : Int32))), .val (.int ((p3 &&& (2147483647 : Int32)) % (9 : Int32))), .val (.ref b126), .unset, .unset, .unset, .unset] [(.long q0), (.int (p2 &&& (3 : Int32))), (.int (4 : Int32)), (.int (4 : Int32)), (.ref b126)])) _
    refine XS.iloadN X158.here hx rfl (hb hby at_76) rfl ?_
    show Steps p.tables e below (T158.setTop (mkF m 77 #[.val (.long q0), .second, .val (.int p1), .val (.int p2), .val (.int p3), .val (.int (p2 &&& (3 : Int32))), .val (.int ((p3 &&& (2147483647 : Int32)) % (9 : Int32))), .val (.ref b126), .unset, .unset, .unset, .unset] [(.int p1), (.long q0), (.int (p2 &&& (3 : Int32))), (.int (4 : Int32)), (.int (4 : Int32)), (.ref b126)])) _
    exact kq)
  have f162 := (Nat.le_trans f154 (Keep.of_wr W158).1)
  obtain ⟨_, _, ⟨T161, L161, k161, n161⟩, -, X161, ⟨Lc161, hQ161, l161, y161, z161⟩, st161⟩ := Jvm.LawKit.callS X158 hx (y := (⟨"com/example/ledgerline/ledgerline/format/GrowingBytesLittleEndianPinLaw", "pick", "(IIJI)B"⟩ : MethodName)) hown (mvT hZ (hw _ (List.mem_of_getElem? (i := 2) rfl))) (mvT hZ (hw _ (List.mem_of_getElem? (i := 3) rfl))) (mvT hZ (hw _ (List.mem_of_getElem? (i := 4) rfl))) (mvT hZ (hw _ (List.mem_of_getElem? (i := 5) rfl))) (by decide) (backOf (W := 2) (rm1 l Z a0 hw [] (4 : Int32) (p2 &&& (3 : Int32)) q0 p1 h158 n0 f162) hZ (hw _ (List.mem_of_getElem? (i := 5) rfl)) (hw _ (List.mem_of_getElem? (i := 4) rfl)) (by decide) (by decide)) (g := (mkF m 77 #[.val (.long q0), .second, .val (.int p1), .val (.int p2), .val (.int p3), .val (.int (p2 &&& (3 : Int32))), .val (.int ((p3 &&& (2147483647 : Int32)) % (9 : Int32))), .val (.ref b126), .unset, .unset, .unset, .unset] [(.int p1), (.long q0), (.int (p2 &&& (3 : Int32))), (.int (4 : Int32)), (.int (4 : Int32)), (.ref b126)])) rfl (by rw [hml]; rfl) (argsL := [(.int (4 : Int32)), (.int (p2 &&& (3 : Int32))), (.long q0), (.int p1)]) (rest := [(.int (4 : Int32)), (.ref b126)]) (lenOf pd_0 rfl) rfl (by show 2 * 0 + _ ≤ _; exact Nat.le_of_eq rfl) (hb hby at_77) (fun _ _ => ⟨rfl, e158, (by decide : 1 + 0 ≤ _), (by decide : 12 + 0 ≤ _)⟩)
  dsimp only [Pt.U, Pt.locs, Pt.cells, Pt.slots] at X161 l161 y161 z161 st161 hQ161
  obtain rfl : k161 = 1 := y161
  obtain rfl : n161 = 12 := z161
  obtain ⟨rfl, N161q, e161⟩ := hQ161
  have N161 : Fr n0 L161 := by rw [l161]; exact Fr.app N158 N161q
  have G163 : Go p e below A0 (T161.setTop (mkF m 80 #[.val (.long q0), .second, .val (.int p1), .val (.int p2), .val (.int p3), .val (.int (p2 &&& (3 : Int32))), .val (.int ((p3 &&& (2147483647 : Int32)) % (9 : Int32))), .val (.ref b126), .unset, .unset, .unset, .unset] [(.int (own_pk (4 : Int32) (p2 &&& (3 : Int32)) q0 p1)), (.int (4 : Int32)), (.ref b126)])) := fun tq kq => G160 tq (st161 _ kq)
  obtain ⟨cl164, Ar164, q164, S164, M164, H164, Gf164⟩ := id V158'
  have hi165 : ¬ ((4 : Int32) < 0 ∨ cl164.slots.size ≤ ((4 : Int32)).toNatClampNeg) := (inb_of S164 ⟨by decide, by decide⟩)
  obtain ⟨T166, h166, X166, e166, W166, st166⟩ := stB X161 hx hZ e161 Ar164 (j := (4 : Int32)) hi165 (g := (mkF m 80 #[.val (.long q0), .second, .val (.int p1), .val (.int p2), .val (.int p3), .val (.int (p2 &&& (3 : Int32))), .val (.int ((p3 &&& (2147483647 : Int32)) % (9 : Int32))), .val (.ref b126), .unset, .unset, .unset, .unset] [(.int (own_pk (4 : Int32) (p2 &&& (3 : Int32)) q0 p1)), (.int (4 : Int32)), (.ref b126)])) rfl rfl (hb hby at_80)
  rw [show nar .byte (own_pk (4 : Int32) (p2 &&& (3 : Int32)) q0 p1) = (own_pk (4 : Int32) (p2 &&& (3 : Int32)) q0 p1) from own_pkn _ _ _ _] at W166
  have N166 := Fr.snoc X166 N161 g_b126
  have V166 := Arv.set Ar164 q164 S164 M164 H164 Gf164 (own_pkf _ _ _ _) W166 4 rfl (Nat.le_of_ble_eq_true rfl)
  have V166' : Arv Z h166 b126 k126 .byte (12 : Int32) [(.int (own_pk (0 : Int32) (p2 &&& (3 : Int32)) q0 p1)), (.int (own_pk (1 : Int32) (p2 &&& (3 : Int32)) q0 p1)), (.int (own_pk (2 : Int32) (p2 &&& (3 : Int32)) q0 p1)), (.int (own_pk (3 : Int32) (p2 &&& (3 : Int32)) q0 p1)), (.int (own_pk (4 : Int32) (p2 &&& (3 : Int32)) q0 p1)), (.int (0 : Int32)), (.int (0 : Int32)), (.int (0 : Int32)), (.int (0 : Int32)), (.int (0 : Int32)), (.int (0 : Int32)), (.int (0 : Int32))] (.int (0 : Int32)) := by simp only [List.set_cons_succ, List.set_cons_zero] at V166; exact V166
  have G167 : Go p e below A0 (T166.setTop (mkF m 81 #[.val (.long q0), .second, .val (.int p1), .val (.int p2), .val (.int p3), .val (.int (p2 &&& (3 : Int32))), .val (.int ((p3 &&& (2147483647 : Int32)) % (9 : Int32))), .val (.ref b126), .unset, .unset, .unset, .unset] [])) := fun tq kq => G163 tq (st166 _ kq)
  have G168 : Go p e below A0 (T166.setTop (mkF m 89 #[.val (.long q0), .second, .val (.int p1), .val (.int p2), .val (.int p3), .val (.int (p2 &&& (3 : Int32))), .val (.int ((p3 &&& (2147483647 : Int32)) % (9 : Int32))), .val (.ref b126), .unset, .unset, .unset, .unset] [(.int p1), (.long q0), (.int (p2 &&& (3 : Int32))), (.int (5 : Int32)), (.int (5 : Int32)), (.ref b126)])) := fun tq kq => G167 tq (by
    refine XS.aload X166.here hx rfl (hb hby at_81) rfl rfl ?_
    show Steps p.tables e below (T166.setTop (mkF m 83 #[.val (.long q0), .second, .val (.int p1), .val (.int p2), .val (.int p3), .val (.int (p2 &&& (3 : Int32))), .val (.int ((p3 &&& (2147483647 : Int32)) % (9 : Int32))), .val (.ref b126), .unset, .unset, .unset, .unset] [(.ref b126)])) _
    refine XS.iconst X166.here hx rfl (hb hby at_83) ?_
    show Steps p.tables e below (T166.setTop (mkF m 84 #[.val (.long q0), .second, .val (.int p1), .val (.int p2), .val (.int p3), .val (.int (p2 &&& (3 : Int32))), .val (.int ((p3 &&& (2147483647 : Int32)) % (9 : Int32))), .val (.ref b126), .unset, .unset, .unset, .unset] [(.int (5 : Int32)), (.ref b126)])) _
    refine XS.iconst X166.here hx rfl (hb hby at_84) ?_
    show Steps p.tables e below (T166.setTop (mkF m 85 #[.val (.long q0), .second, .val (.int p1), .val (.int p2), .val (.int p3), .val (.int (p2 &&& (3 : Int32))), .val (.int ((p3 &&& (2147483647 : Int32)) % (9 : Int32))), .val (.ref b126), .unset, .unset, .unset, .unset] [(.int (5 : Int32)), (.int (5 : Int32)), (.ref b126)])) _
    refine XS.iload X166.here hx rfl (hb hby at_85) rfl ?_
    show Steps p.tables e below (T166.setTop (mkF m 87 #[.val (.long q0), .second, .val (.int p1), .val (.int p2), .val (.int p3), .val (.int (p2 &&& (3 : Int32))), .val (.int ((p3 &&& (2147483647 : Int32)) % (9 : Int32))), .val (.ref b126), .unset, .unset, .unset, .unset] [(.int (p2 &&& (3 : Int32))), (.int (5 : Int32)), (.int (5 : Int32)), (.ref b126)])) _
    refine XS.lloadN X166.here hx rfl (hb hby at_87) rfl ?_
    show Steps p.tables e below (T166.setTop (mkF m 88 #[.val (.long q0), .second, .val (.int p1), .val (.int p2), .val (.int p3), .val (.int (p2 &&& (3 : Int32))), .val (.int ((p3 &&& (2147483647 : Int32)) % (9 : Int32))), .val (.ref b126), .unset, .unset, .unset, .unset] [(.long q0), (.int (p2 &&& (3 : Int32))), (.int (5 : Int32)), (.int (5 : Int32)), (.ref b126)])) _
    refine XS.iloadN X166.here hx rfl (hb hby at_88) rfl ?_
    show Steps p.tables e below (T166.setTop (mkF m 89 #[.val (.long q0), .second, .val (.int p1), .val (.int p2), .val (.int p3), .val (.int (p2 &&& (3 : Int32))), .val (.int ((p3 &&& (2147483647 : Int32)) % (9 : Int32))), .val (.ref b126), .unset, .unset, .unset, .unset] [(.int p1), (.long q0), (.int (p2 &&& (3 : Int32))), (.int (5 : Int32)), (.int (5 : Int32)), (.ref b126)])) _
    exact kq)
  have f170 := (Nat.le_trans f162 (Keep.of_wr W166).1)
  obtain ⟨_, _, ⟨T169, L169, k169, n169⟩, -, X169, ⟨Lc169, hQ169, l169, y169, z169⟩, st169⟩ := Jvm.LawKit.callS X166 hx (y := (⟨"com/example/ledgerline/ledgerline/format/GrowingBytesLittleEndianPinLaw", "pick", "(IIJI)B"⟩ : MethodName)) hown (mvT hZ (hw _ (List.mem_of_getElem? (i := 2) rfl))) (mvT hZ (hw _ (List.mem_of_getElem? (i := 3) rfl))) (mvT hZ (hw _ (List.mem_of_getElem? (i := 4) rfl))) (mvT hZ (hw _ (List.mem_of_getElem? (i := 5) rfl))) (by decide) (backOf (W := 2) (rm1 l Z a0 hw [] (5 : Int32) (p2 &&& (3 : Int32)) q0 p1 h166 n0 f170) hZ (hw _ (List.mem_of_getElem? (i := 5) rfl)) (hw _ (List.mem_of_getElem? (i := 4) rfl)) (by decide) (by decide)) (g := (mkF m 89 #[.val (.long q0), .second, .val (.int p1), .val (.int p2), .val (.int p3), .val (.int (p2 &&& (3 : Int32))), .val (.int ((p3 &&& (2147483647 : Int32)) % (9 : Int32))), .val (.ref b126), .unset, .unset, .unset, .unset] [(.int p1), (.long q0), (.int (p2 &&& (3 : Int32))), (.int (5 : Int32)), (.int (5 : Int32)), (.ref b126)])) rfl (by rw [hml]; rfl) (argsL := [(.int (5 : Int32)), (.int (p2 &&& (3 : Int32))), (.long q0), (.int p1)]) (rest := [(.int (5 : Int32)), (.ref b126)]) (lenOf pd_0 rfl) rfl (by show 2 * 0 + _ ≤ _; exact Nat.le_of_eq rfl) (hb hby at_89) (fun _ _ => ⟨rfl, e166, (by decide : 1 + 0 ≤ _), (by decide : 12 + 0 ≤ _)⟩)
  dsimp only [Pt.U, Pt.locs, Pt.cells, Pt.slots] at X169 l169 y169 z169 st169 hQ169
  obtain rfl : k169 = 1 := y169
  obtain rfl : n169 = 12 := z169
  obtain ⟨rfl, N169q, e169⟩ := hQ169
  have N169 : Fr n0 L169 := by rw [l169]; exact Fr.app N166 N169q
  have G171 : Go p e below A0 (T169.setTop (mkF m 92 #[.val (.long q0), .second, .val (.int p1), .val (.int p2), .val (.int p3), .val (.int (p2 &&& (3 : Int32))), .val (.int ((p3 &&& (2147483647 : Int32)) % (9 : Int32))), .val (.ref b126), .unset, .unset, .unset, .unset] [(.int (own_pk (5 : Int32) (p2 &&& (3 : Int32)) q0 p1)), (.int (5 : Int32)), (.ref b126)])) := fun tq kq => G168 tq (st169 _ kq)
  obtain ⟨cl172, Ar172, q172, S172, M172, H172, Gf172⟩ := id V166'
  have hi173 : ¬ ((5 : Int32) < 0 ∨ cl172.slots.size ≤ ((5 : Int32)).toNatClampNeg) := (inb_of S172 ⟨by decide, by decide⟩)
  obtain ⟨T174, h174, X174, e174, W174, st174⟩ := stB X169 hx hZ e169 Ar172 (j := (5 : Int32)) hi173 (g := (mkF m 92 #[.val (.long q0), .second, .val (.int p1), .val (.int p2), .val (.int p3), .val (.int (p2 &&& (3 : Int32))), .val (.int ((p3 &&& (2147483647 : Int32)) % (9 : Int32))), .val (.ref b126), .unset, .unset, .unset, .unset] [(.int (own_pk (5 : Int32) (p2 &&& (3 : Int32)) q0 p1)), (.int (5 : Int32)), (.ref b126)])) rfl rfl (hb hby at_92)
  rw [show nar .byte (own_pk (5 : Int32) (p2 &&& (3 : Int32)) q0 p1) = (own_pk (5 : Int32) (p2 &&& (3 : Int32)) q0 p1) from own_pkn _ _ _ _] at W174
  have N174 := Fr.snoc X174 N169 g_b126
  have V174 := Arv.set Ar172 q172 S172 M172 H172 Gf172 (own_pkf _ _ _ _) W174 5 rfl (Nat.le_of_ble_eq_true rfl)
  have V174' : Arv Z h174 b126 k126 .byte (12 : Int32) [(.int (own_pk (0 : Int32) (p2 &&& (3 : Int32)) q0 p1)), (.int (own_pk (1 : Int32) (p2 &&& (3 : Int32)) q0 p1)), (.int (own_pk (2 : Int32) (p2 &&& (3 : Int32)) q0 p1)), (.int (own_pk (3 : Int32) (p2 &&& (3 : Int32)) q0 p1)), (.int (own_pk (4 : Int32) (p2 &&& (3 : Int32)) q0 p1)), (.int (own_pk (5 : Int32) (p2 &&& (3 : Int32)) q0 p1)), (.int (0 : Int32)), (.int (0 : Int32)), (.int (0 : Int32)), (.int (0 : Int32)), (.int (0 : Int32)), (.int (0 : Int32))] (.int (0 : Int32)) := by simp only [List.set_cons_succ, List.set_cons_zero] at V174; exact V174
  have G175 : Go p e below A0 (T174.setTop (mkF m 93 #[.val (.long q0), .second, .val (.int p1), .val (.int p2), .val (.int p3), .val (.int (p2 &&& (3 : Int32))), .val (.int ((p3 &&& (2147483647 : Int32)) % (9 : Int32))), .val (.ref b126), .unset, .unset, .unset, .unset] [])) := fun tq kq => G171 tq (st174 _ kq)
  have G176 : Go p e below A0 (T174.setTop (mkF m 103 #[.val (.long q0), .second, .val (.int p1), .val (.int p2), .val (.int p3), .val (.int (p2 &&& (3 : Int32))), .val (.int ((p3 &&& (2147483647 : Int32)) % (9 : Int32))), .val (.ref b126), .unset, .unset, .unset, .unset] [(.int p1), (.long q0), (.int (p2 &&& (3 : Int32))), (.int (6 : Int32)), (.int (6 : Int32)), (.ref b126)])) := fun tq kq => G175 tq (by
    refine XS.aload X174.here hx rfl (hb hby at_93) rfl rfl ?_
    show Steps p.tables e below (T174.setTop (mkF m 95 #[.val (.long q0), .second, .val (.int p1), .val (.int p2), .val (.int p3), .val (.int (p2 &&& (3 : Int32))), .val (.int ((p3 &&& (2147483647 : Int32)) % (9 : Int32))), .val (.ref b126), .unset, .unset, .unset, .unset] [(.ref b126)])) _
    refine XS.bipush X174.here hx rfl (hb hby at_95) ?_
    show Steps p.tables e below (T174.setTop (mkF m 97 #[.val (.long q0), .second, .val (.int p1), .val (.int p2), .val (.int p3), .val (.int (p2 &&& (3 : Int32))), .val (.int ((p3 &&& (2147483647 : Int32)) % (9 : Int32))), .val (.ref b126), .unset, .unset, .unset, .unset] [(.int (6 : Int32)), (.ref b126)])) _
    refine XS.bipush X174.here hx rfl (hb hby at_97) ?_
    show Steps p.tables e below (T174.setTop (mkF m 99 #[.val (.long q0), .second, .val (.int p1), .val (.int p2), .val (.int p3), .val (.int (p2 &&& (3 : Int32))), .val (.int ((p3 &&& (2147483647 : Int32)) % (9 : Int32))), .val (.ref b126), .unset, .unset, .unset, .unset] [(.int (6 : Int32)), (.int (6 : Int32)), (.ref b126)])) _
    refine XS.iload X174.here hx rfl (hb hby at_99) rfl ?_
    show Steps p.tables e below (T174.setTop (mkF m 101 #[.val (.long q0), .second, .val (.int p1), .val (.int p2), .val (.int p3), .val (.int (p2 &&& (3 : Int32))), .val (.int ((p3 &&& (2147483647 : Int32)) % (9 : Int32))), .val (.ref b126), .unset, .unset, .unset, .unset] [(.int (p2 &&& (3 : Int32))), (.int (6 : Int32)), (.int (6 : Int32)), (.ref b126)])) _
    refine XS.lloadN X174.here hx rfl (hb hby at_101) rfl ?_
    show Steps p.tables e below (T174.setTop (mkF m 102 #[.val (.long q0), .second, .val (.int p1), .val (.int p2), .val (.int p3), .val (.int (p2 &&& (3 : Int32))), .val (.int ((p3 &&& (2147483647 : Int32)) % (9 : Int32))), .val (.ref b126), .unset, .unset, .unset, .unset] [(.long q0), (.int (p2 &&& (3 : Int32))), (.int (6 : Int32)), (.int (6 : Int32)), (.ref b126)])) _
    refine XS.iloadN X174.here hx rfl (hb hby at_102) rfl ?_
    show Steps p.tables e below (T174.setTop (mkF m 103 #[.val (.long q0), .second, .val (.int p1), .val (.int p2), .val (.int p3), .val (.int (p2 &&& (3 : Int32))), .val (.int ((p3 &&& (2147483647 : Int32)) % (9 : Int32))), .val (.ref b126), .unset, .unset, .unset, .unset] [(.int p1), (.long q0), (.int (p2 &&& (3 : Int32))), (.int (6 : Int32)), (.int (6 : Int32)), (.ref b126)])) _
    exact kq)
  have f178 := (Nat.le_trans f170 (Keep.of_wr W174).1)
  obtain ⟨_, _, ⟨T177, L177, k177, n177⟩, -, X177, ⟨Lc177, hQ177, l177, y177, z177⟩, st177⟩ := Jvm.LawKit.callS X174 hx (y := (⟨"com/example/ledgerline/ledgerline/format/GrowingBytesLittleEndianPinLaw", "pick", "(IIJI)B"⟩ : MethodName)) hown (mvT hZ (hw _ (List.mem_of_getElem? (i := 2) rfl))) (mvT hZ (hw _ (List.mem_of_getElem? (i := 3) rfl))) (mvT hZ (hw _ (List.mem_of_getElem? (i := 4) rfl))) (mvT hZ (hw _ (List.mem_of_getElem? (i := 5) rfl))) (by decide) (backOf (W := 2) (rm1 l Z a0 hw [] (6 : Int32) (p2 &&& (3 : Int32)) q0 p1 h174 n0 f178) hZ (hw _ (List.mem_of_getElem? (i := 5) rfl)) (hw _ (List.mem_of_getElem? (i := 4) rfl)) (by decide) (by decide)) (g := (mkF m 103 #[.val (.long q0), .second, .val (.int p1), .val (.int p2), .val (.int p3), .val (.int (p2 &&& (3 : Int32))), .val (.int ((p3 &&& (2147483647 : Int32)) % (9 : Int32))), .val (.ref b126), .unset, .unset, .unset, .unset] [(.int p1), (.long q0), (.int (p2 &&& (3 : Int32))), (.int (6 : Int32)), (.int (6 : Int32)), (.ref b126)])) rfl (by rw [hml]; rfl) (argsL := [(.int (6 : Int32)), (.int (p2 &&& (3 : Int32))), (.long q0), (.int p1)]) (rest := [(.int (6 : Int32)), (.ref b126)]) (lenOf pd_0 rfl) rfl (by show 2 * 0 + _ ≤ _; exact Nat.le_of_eq rfl) (hb hby at_103) (fun _ _ => ⟨rfl, e174, (by decide : 1 + 0 ≤ _), (by decide : 12 + 0 ≤ _)⟩)
  dsimp only [Pt.U, Pt.locs, Pt.cells, Pt.slots] at X177 l177 y177 z177 st177 hQ177
  obtain rfl : k177 = 1 := y177
  obtain rfl : n177 = 12 := z177
  obtain ⟨rfl, N177q, e177⟩ := hQ177
  have N177 : Fr n0 L177 := by rw [l177]; exact Fr.app N174 N177q
  have G179 : Go p e below A0 (T177.setTop (mkF m 106 #[.val (.long q0), .second, .val (.int p1), .val (.int p2), .val (.int p3), .val (.int (p2 &&& (3 : Int32))), .val (.int ((p3 &&& (2147483647 : Int32)) % (9 : Int32))), .val (.ref b126), .unset, .unset, .unset, .unset] [(.int (own_pk (6 : Int32) (p2 &&& (3 : Int32)) q0 p1)), (.int (6 : Int32)), (.ref b126)])) := fun tq kq => G176 tq (st177 _ kq)
  obtain ⟨cl180, Ar180, q180, S180, M180, H180, Gf180⟩ := id V174'
  have hi181 : ¬ ((6 : Int32) < 0 ∨ cl180.slots.size ≤ ((6 : Int32)).toNatClampNeg) := (inb_of S180 ⟨by decide, by decide⟩)
  obtain ⟨T182, h182, X182, e182, W182, st182⟩ := stB X177 hx hZ e177 Ar180 (j := (6 : Int32)) hi181 (g := (mkF m 106 #[.val (.long q0), .second, .val (.int p1), .val (.int p2), .val (.int p3), .val (.int (p2 &&& (3 : Int32))), .val (.int ((p3 &&& (2147483647 : Int32)) % (9 : Int32))), .val (.ref b126), .unset, .unset, .unset, .unset] [(.int (own_pk (6 : Int32) (p2 &&& (3 : Int32)) q0 p1)), (.int (6 : Int32)), (.ref b126)])) rfl rfl (hb hby at_106)
  rw [show nar .byte (own_pk (6 : Int32) (p2 &&& (3 : Int32)) q0 p1) = (own_pk (6 : Int32) (p2 &&& (3 : Int32)) q0 p1) from own_pkn _ _ _ _] at W182
  have N182 := Fr.snoc X182 N177 g_b126
  have V182 := Arv.set Ar180 q180 S180 M180 H180 Gf180 (own_pkf _ _ _ _) W182 6 rfl (Nat.le_of_ble_eq_true rfl)
  have V182' : Arv Z h182 b126 k126 .byte (12 : Int32) [(.int (own_pk (0 : Int32) (p2 &&& (3 : Int32)) q0 p1)), (.int (own_pk (1 : Int32) (p2 &&& (3 : Int32)) q0 p1)), (.int (own_pk (2 : Int32) (p2 &&& (3 : Int32)) q0 p1)), (.int (own_pk (3 : Int32) (p2 &&& (3 : Int32)) q0 p1)), (.int (own_pk (4 : Int32) (p2 &&& (3 : Int32)) q0 p1)), (.int (own_pk (5 : Int32) (p2 &&& (3 : Int32)) q0 p1)), (.int (own_pk (6 : Int32) (p2 &&& (3 : Int32)) q0 p1)), (.int (0 : Int32)), (.int (0 : Int32)), (.int (0 : Int32)), (.int (0 : Int32)), (.int (0 : Int32))] (.int (0 : Int32)) := by simp only [List.set_cons_succ, List.set_cons_zero] at V182; exact V182
  have G183 : Go p e below A0 (T182.setTop (mkF m 107 #[.val (.long q0), .second, .val (.int p1), .val (.int p2), .val (.int p3), .val (.int (p2 &&& (3 : Int32))), .val (.int ((p3 &&& (2147483647 : Int32)) % (9 : Int32))), .val (.ref b126), .unset, .unset, .unset, .unset] [])) := fun tq kq => G179 tq (st182 _ kq)
  have G184 : Go p e below A0 (T182.setTop (mkF m 117 #[.val (.long q0), .second, .val (.int p1), .val (.int p2), .val (.int p3), .val (.int (p2 &&& (3 : Int32))), .val (.int ((p3 &&& (2147483647 : Int32)) % (9 : Int32))), .val (.ref b126), .unset, .unset, .unset, .unset] [(.int p1), (.long q0), (.int (p2 &&& (3 : Int32))), (.int (7 : Int32)), (.int (7 : Int32)), (.ref b126)])) := fun tq kq => G183 tq (by
    refine XS.aload X182.here hx rfl (hb hby at_107) rfl rfl ?_
    show Steps p.tables e below (T182.setTop (mkF m 109 #[.val (.long q0), .second, .val (.int p1), .val (.int p2), .val (.int p3), .val (.int (p2 &&& (3 : Int32))), .val (.int ((p3 &&& (2147483647 : Int32)) % (9 : Int32))), .val (.ref b126), .unset, .unset, .unset, .unset] [(.ref b126)])) _
    refine XS.bipush X182.here hx rfl (hb hby at_109) ?_
    show Steps p.tables e below (T182.setTop (mkF m 111 #[.val (.long q0), .second, .val (.int p1), .val (.int p2), .val (.int p3), .val (.int (p2 &&& (3 : Int32))), .val (.int ((p3 &&& (2147483647 : Int32)) % (9 : Int32))), .val (.ref b126), .unset, .unset, .unset, .unset] [(.int (7 : Int32)), (.ref b126)])) _
    refine XS.bipush X182.here hx rfl (hb hby at_111) ?_
    show Steps p.tables e below (T182.setTop (mkF m 113 #[.val (.long q0), .second, .val (.int p1), .val (.int p2), .val (.int p3), .val (.int (p2 &&& (3 : Int32))), .val (.int ((p3 &&& (2147483647 : Int32)) % (9 : Int32))), .val (.ref b126), .unset, .unset, .unset, .unset] [(.int (7 : Int32)), (.int (7 : Int32)), (.ref b126)])) _
    refine XS.iload X182.here hx rfl (hb hby at_113) rfl ?_
    show Steps p.tables e below (T182.setTop (mkF m 115 #[.val (.long q0), .second, .val (.int p1), .val (.int p2), .val (.int p3), .val (.int (p2 &&& (3 : Int32))), .val (.int ((p3 &&& (2147483647 : Int32)) % (9 : Int32))), .val (.ref b126), .unset, .unset, .unset, .unset] [(.int (p2 &&& (3 : Int32))), (.int (7 : Int32)), (.int (7 : Int32)), (.ref b126)])) _
    refine XS.lloadN X182.here hx rfl (hb hby at_115) rfl ?_
    show Steps p.tables e below (T182.setTop (mkF m 116 #[.val (.long q0), .second, .val (.int p1), .val (.int p2), .val (.int p3), .val (.int (p2 &&& (3 : Int32))), .val (.int ((p3 &&& (2147483647 : Int32)) % (9 : Int32))), .val (.ref b126), .unset, .unset, .unset, .unset] [(.long q0), (.int (p2 &&& (3 : Int32))), (.int (7 : Int32)), (.int (7 : Int32)), (.ref b126)])) _
    refine XS.iloadN X182.here hx rfl (hb hby at_116) rfl ?_
    show Steps p.tables e below (T182.setTop (mkF m 117 #[.val (.long q0), .second, .val (.int p1), .val (.int p2), .val (.int p3), .val (.int (p2 &&& (3 : Int32))), .val (.int ((p3 &&& (2147483647 : Int32)) % (9 : Int32))), .val (.ref b126), .unset, .unset, .unset, .unset] [(.int p1), (.long q0), (.int (p2 &&& (3 : Int32))), (.int (7 : Int32)), (.int (7 : Int32)), (.ref b126)])) _
    exact kq)
  have f186 := (Nat.le_trans f178 (Keep.of_wr W182).1)
  obtain ⟨_, _, ⟨T185, L185, k185, n185⟩, -, X185, ⟨Lc185, hQ185, l185, y185, z185⟩, st185⟩ := Jvm.LawKit.callS X182 hx (y := (⟨"com/example/ledgerline/ledgerline/format/GrowingBytesLittleEndianPinLaw", "pick", "(IIJI)B"⟩ : MethodName)) hown (mvT hZ (hw _ (List.mem_of_getElem? (i := 2) rfl))) (mvT hZ (hw _ (List.mem_of_getElem? (i := 3) rfl))) (mvT hZ (hw _ (List.mem_of_getElem? (i := 4) rfl))) (mvT hZ (hw _ (List.mem_of_getElem? (i := 5) rfl))) (by decide) (backOf (W := 2) (rm1 l Z a0 hw [] (7 : Int32) (p2 &&& (3 : Int32)) q0 p1 h182 n0 f186) hZ (hw _ (List.mem_of_getElem? (i := 5) rfl)) (hw _ (List.mem_of_getElem? (i := 4) rfl)) (by decide) (by decide)) (g := (mkF m 117 #[.val (.long q0), .second, .val (.int p1), .val (.int p2), .val (.int p3), .val (.int (p2 &&& (3 : Int32))), .val (.int ((p3 &&& (2147483647 : Int32)) % (9 : Int32))), .val (.ref b126), .unset, .unset, .unset, .unset] [(.int p1), (.long q0), (.int (p2 &&& (3 : Int32))), (.int (7 : Int32)), (.int (7 : Int32)), (.ref b126)])) rfl (by rw [hml]; rfl) (argsL := [(.int (7 : Int32)), (.int (p2 &&& (3 : Int32))), (.long q0), (.int p1)]) (rest := [(.int (7 : Int32)), (.ref b126)]) (lenOf pd_0 rfl) rfl (by show 2 * 0 + _ ≤ _; exact Nat.le_of_eq rfl) (hb hby at_117) (fun _ _ => ⟨rfl, e182, (by decide : 1 + 0 ≤ _), (by decide : 12 + 0 ≤ _)⟩)
  dsimp only [Pt.U, Pt.locs, Pt.cells, Pt.slots] at X185 l185 y185 z185 st185 hQ185
  obtain rfl : k185 = 1 := y185
  obtain rfl : n185 = 12 := z185
  obtain ⟨rfl, N185q, e185⟩ := hQ185
  have N185 : Fr n0 L185 := by rw [l185]; exact Fr.app N182 N185q
  have G187 : Go p e below A0 (T185.setTop (mkF m 120 #[.val (.long q0), .second, .val (.int p1), .val (.int p2), .val (.int p3), .val (.int (p2 &&& (3 : Int32))), .val (.int ((p3 &&& (2147483647 : Int32)) % (9 : Int32))), .val (.ref b126), .unset, .unset, .unset, .unset] [(.int (own_pk (7 : Int32) (p2 &&& (3 : Int32)) q0 p1)), (.int (7 : Int32)), (.ref b126)])) := fun tq kq => G184 tq (st185 _ kq)
  obtain ⟨cl188, Ar188, q188, S188, M188, H188, Gf188⟩ := id V182'
  have hi189 : ¬ ((7 : Int32) < 0 ∨ cl188.slots.size ≤ ((7 : Int32)).toNatClampNeg) := (inb_of S188 ⟨by decide, by decide⟩)
  obtain ⟨T190, h190, X190, e190, W190, st190⟩ := stB X185 hx hZ e185 Ar188 (j := (7 : Int32)) hi189 (g := (mkF m 120 #[.val (.long q0), .second, .val (.int p1), .val (.int p2), .val (.int p3), .val (.int (p2 &&& (3 : Int32))), .val (.int ((p3 &&& (2147483647 : Int32)) % (9 : Int32))), .val (.ref b126), .unset, .unset, .unset, .unset] [(.int (own_pk (7 : Int32) (p2 &&& (3 : Int32)) q0 p1)), (.int (7 : Int32)), (.ref b126)])) rfl rfl (hb hby at_120)
  rw [show nar .byte (own_pk (7 : Int32) (p2 &&& (3 : Int32)) q0 p1) = (own_pk (7 : Int32) (p2 &&& (3 : Int32)) q0 p1) from own_pkn _ _ _ _] at W190
  have N190 := Fr.snoc X190 N185 g_b126
  have V190 := Arv.set Ar188 q188 S188 M188 H188 Gf188 (own_pkf _ _ _ _) W190 7 rfl (Nat.le_of_ble_eq_true rfl)
  have V190' : Arv Z h190 b126 k126 .byte (12 : Int32) [(.int (own_pk (0 : Int32) (p2 &&& (3 : Int32)) q0 p1)), (.int (own_pk (1 : Int32) (p2 &&& (3 : Int32)) q0 p1)), (.int (own_pk (2 : Int32) (p2 &&& (3 : Int32)) q0 p1)), (.int (own_pk (3 : Int32) (p2 &&& (3 : Int32)) q0 p1)), (.int (own_pk (4 : Int32) (p2 &&& (3 : Int32)) q0 p1)), (.int (own_pk (5 : Int32) (p2 &&& (3 : Int32)) q0 p1)), (.int (own_pk (6 : Int32) (p2 &&& (3 : Int32)) q0 p1)), (.int (own_pk (7 : Int32) (p2 &&& (3 : Int32)) q0 p1)), (.int (0 : Int32)), (.int (0 : Int32)), (.int (0 : Int32)), (.int (0 : Int32))] (.int (0 : Int32)) := by simp only [List.set_cons_succ, List.set_cons_zero] at V190; exact V190
  have G191 : Go p e below A0 (T190.setTop (mkF m 121 #[.val (.long q0), .second, .val (.int p1), .val (.int p2), .val (.int p3), .val (.int (p2 &&& (3 : Int32))), .val (.int ((p3 &&& (2147483647 : Int32)) % (9 : Int32))), .val (.ref b126), .unset, .unset, .unset, .unset] [])) := fun tq kq => G187 tq (st190 _ kq)
  have G192 : Go p e below A0 (T190.setTop (mkF m 131 #[.val (.long q0), .second, .val (.int p1), .val (.int p2), .val (.int p3), .val (.int (p2 &&& (3 : Int32))), .val (.int ((p3 &&& (2147483647 : Int32)) % (9 : Int32))), .val (.ref b126), .unset, .unset, .unset, .unset] [(.int p1), (.long q0), (.int (p2 &&& (3 : Int32))), (.int (8 : Int32)), (.int (8 : Int32)), (.ref b126)])) := fun tq kq => G191 tq (by
    refine XS.aload X190.here hx rfl (hb hby at_121) rfl rfl ?_
    show Steps p.tables e below (T190.setTop (mkF m 123 #[.val (.long q0), .second, .val (.int p1), .val (.int p2), .val (.int p3), .val (.int (p2 &&& (3 : Int32))), .val (.int ((p3 &&& (2147483647 : Int32)) % (9 : Int32))), .val (.ref b126), .unset, .unset, .unset, .unset] [(.ref b126)])) _
    refine XS.bipush X190.here hx rfl (hb hby at_123) ?_
    show Steps p.tables e below (T190.setTop (mkF m 125 #[.val (.long q0), .second, .val (.int p1), .val (.int p2), .val (.int p3), .val (.int (p2 &&& (3 : Int32))), .val (.int ((p3 &&& (2147483647 : Int32)) % (9 : Int32))), .val (.ref b126), .unset, .unset, .unset, .unset] [(.int (8 : Int32)), (.ref b126)])) _
    refine XS.bipush X190.here hx rfl (hb hby at_125) ?_
    show Steps p.tables e below (T190.setTop (mkF m 127 #[.val (.long q0), .second, .val (.int p1), .val (.int p2), .val (.int p3), .val (.int (p2 &&& (3 : Int32))), .val (.int ((p3 &&& (2147483647 : Int32)) % (9 : Int32))), .val (.ref b126), .unset, .unset, .unset, .unset] [(.int (8 : Int32)), (.int (8 : Int32)), (.ref b126)])) _
    refine XS.iload X190.here hx rfl (hb hby at_127) rfl ?_
    show Steps p.tables e below (T190.setTop (mkF m 129 #[.val (.long q0), .second, .val (.int p1), .val (.int p2), .val (.int p3), .val (.int (p2 &&& (3 : Int32))), .val (.int ((p3 &&& (2147483647 : Int32)) % (9 : Int32))), .val (.ref b126), .unset, .unset, .unset, .unset] [(.int (p2 &&& (3 : Int32))), (.int (8 : Int32)), (.int (8 : Int32)), (.ref b126)])) _
    refine XS.lloadN X190.here hx rfl (hb hby at_129) rfl ?_
    show Steps p.tables e below (T190.setTop (mkF m 130 #[.val (.long q0), .second, .val (.int p1), .val (.int p2), .val (.int p3), .val (.int (p2 &&& (3 : Int32))), .val (.int ((p3 &&& (2147483647 : Int32)) % (9 : Int32))), .val (.ref b126), .unset, .unset, .unset, .unset] [(.long q0), (.int (p2 &&& (3 : Int32))), (.int (8 : Int32)), (.int (8 : Int32)), (.ref b126)])) _
    refine XS.iloadN X190.here hx rfl (hb hby at_130) rfl ?_
    show Steps p.tables e below (T190.setTop (mkF m 131 #[.val (.long q0), .second, .val (.int p1), .val (.int p2), .val (.int p3), .val (.int (p2 &&& (3 : Int32))), .val (.int ((p3 &&& (2147483647 : Int32)) % (9 : Int32))), .val (.ref b126), .unset, .unset, .unset, .unset] [(.int p1), (.long q0), (.int (p2 &&& (3 : Int32))), (.int (8 : Int32)), (.int (8 : Int32)), (.ref b126)])) _
    exact kq)
  have f194 := (Nat.le_trans f186 (Keep.of_wr W190).1)
  obtain ⟨_, _, ⟨T193, L193, k193, n193⟩, -, X193, ⟨Lc193, hQ193, l193, y193, z193⟩, st193⟩ := Jvm.LawKit.callS X190 hx (y := (⟨"com/example/ledgerline/ledgerline/format/GrowingBytesLittleEndianPinLaw", "pick", "(IIJI)B"⟩ : MethodName)) hown (mvT hZ (hw _ (List.mem_of_getElem? (i := 2) rfl))) (mvT hZ (hw _ (List.mem_of_getElem? (i := 3) rfl))) (mvT hZ (hw _ (List.mem_of_getElem? (i := 4) rfl))) (mvT hZ (hw _ (List.mem_of_getElem? (i := 5) rfl))) (by decide) (backOf (W := 2) (rm1 l Z a0 hw [] (8 : Int32) (p2 &&& (3 : Int32)) q0 p1 h190 n0 f194) hZ (hw _ (List.mem_of_getElem? (i := 5) rfl)) (hw _ (List.mem_of_getElem? (i := 4) rfl)) (by decide) (by decide)) (g := (mkF m 131 #[.val (.long q0), .second, .val (.int p1), .val (.int p2), .val (.int p3), .val (.int (p2 &&& (3 : Int32))), .val (.int ((p3 &&& (2147483647 : Int32)) % (9 : Int32))), .val (.ref b126), .unset, .unset, .unset, .unset] [(.int p1), (.long q0), (.int (p2 &&& (3 : Int32))), (.int (8 : Int32)), (.int (8 : Int32)), (.ref b126)])) rfl (by rw [hml]; rfl) (argsL := [(.int (8 : Int32)), (.int (p2 &&& (3 : Int32))), (.long q0), (.int p1)]) (rest := [(.int (8 : Int32)), (.ref b126)]) (lenOf pd_0 rfl) rfl (by show 2 * 0 + _ ≤ _; exact Nat.le_of_eq rfl) (hb hby at_131) (fun _ _ => ⟨rfl, e190, (by decide : 1 + 0 ≤ _), (by decide : 12 + 0 ≤ _)⟩)
  dsimp only [Pt.U, Pt.locs, Pt.cells, Pt.slots] at X193 l193 y193 z193 st193 hQ193
  obtain rfl : k193 = 1 := y193
  obtain rfl : n193 = 12 := z193
  obtain ⟨rfl, N193q, e193⟩ := hQ193
  have N193 : Fr n0 L193 := by rw [l193]; exact Fr.app N190 N193q
  have G195 : Go p e below A0 (T193.setTop (mkF m 134 #[.val (.long q0), .second, .val (.int p1), .val (.int p2), .val (.int p3), .val (.int (p2 &&& (3 : Int32))), .val (.int ((p3 &&& (2147483647 : Int32)) % (9 : Int32))), .val (.ref b126), .unset, .unset, .unset, .unset] [(.int (own_pk (8 : Int32) (p2 &&& (3 : Int32)) q0 p1)), (.int (8 : Int32)), (.ref b126)])) := fun tq kq => G192 tq (st193 _ kq)
  obtain ⟨cl196, Ar196, q196, S196, M196, H196, Gf196⟩ := id V190'
  have hi197 : ¬ ((8 : Int32) < 0 ∨ cl196.slots.size ≤ ((8 : Int32)).toNatClampNeg) := (inb_of S196 ⟨by decide, by decide⟩)
  obtain ⟨T198, h198, X198, e198, W198, st198⟩ := stB X193 hx hZ e193 Ar196 (j := (8 : Int32)) hi197 (g := (mkF m 134 #[.val (.long q0), .second, .val (.int p1), .val (.int p2), .val (.int p3), .val (.int (p2 &&& (3 : Int32))), .val (.int ((p3 &&& (2147483647 : Int32)) % (9 : Int32))), .val (.ref b126), .unset, .unset, .unset, .unset] [(.int (own_pk (8 : Int32) (p2 &&& (3 : Int32)) q0 p1)), (.int (8 : Int32)), (.ref b126)])) rfl rfl (hb hby at_134)
  rw [show nar .byte (own_pk (8 : Int32) (p2 &&& (3 : Int32)) q0 p1) = (own_pk (8 : Int32) (p2 &&& (3 : Int32)) q0 p1) from own_pkn _ _ _ _] at W198
  have N198 := Fr.snoc X198 N193 g_b126
  have V198 := Arv.set Ar196 q196 S196 M196 H196 Gf196 (own_pkf _ _ _ _) W198 8 rfl (Nat.le_of_ble_eq_true rfl)
  have V198' : Arv Z h198 b126 k126 .byte (12 : Int32) [(.int (own_pk (0 : Int32) (p2 &&& (3 : Int32)) q0 p1)), (.int (own_pk (1 : Int32) (p2 &&& (3 : Int32)) q0 p1)), (.int (own_pk (2 : Int32) (p2 &&& (3 : Int32)) q0 p1)), (.int (own_pk (3 : Int32) (p2 &&& (3 : Int32)) q0 p1)), (.int (own_pk (4 : Int32) (p2 &&& (3 : Int32)) q0 p1)), (.int (own_pk (5 : Int32) (p2 &&& (3 : Int32)) q0 p1)), (.int (own_pk (6 : Int32) (p2 &&& (3 : Int32)) q0 p1)), (.int (own_pk (7 : Int32) (p2 &&& (3 : Int32)) q0 p1)), (.int (own_pk (8 : Int32) (p2 &&& (3 : Int32)) q0 p1)), (.int (0 : Int32)), (.int (0 : Int32)), (.int (0 : Int32))] (.int (0 : Int32)) := by simp only [List.set_cons_succ, List.set_cons_zero] at V198; exact V198
  have G199 : Go p e below A0 (T198.setTop (mkF m 135 #[.val (.long q0), .second, .val (.int p1), .val (.int p2), .val (.int p3), .val (.int (p2 &&& (3 : Int32))), .val (.int ((p3 &&& (2147483647 : Int32)) % (9 : Int32))), .val (.ref b126), .unset, .unset, .unset, .unset] [])) := fun tq kq => G195 tq (st198 _ kq)
  have G200 : Go p e below A0 (T198.setTop (mkF m 145 #[.val (.long q0), .second, .val (.int p1), .val (.int p2), .val (.int p3), .val (.int (p2 &&& (3 : Int32))), .val (.int ((p3 &&& (2147483647 : Int32)) % (9 : Int32))), .val (.ref b126), .unset, .unset, .unset, .unset] [(.int p1), (.long q0), (.int (p2 &&& (3 : Int32))), (.int (9 : Int32)), (.int (9 : Int32)), (.ref b126)])) := fun tq kq => G199 tq (by
    refine XS.aload X198.here hx rfl (hb hby at_135) rfl rfl ?_
    show Steps p.tables e below (T198.setTop (mkF m 137 #[.val (.long q0), .second, .val (.int p1), .val (.int p2), .val (.int p3), .val (.int (p2 &&& (3 : Int32))), .val (.int ((p3 &&& (2147483647 : Int32)) % (9 : Int32))), .val (.ref b126), .unset, .unset, .unset, .unset] [(.ref b126)])) _
    refine XS.bipush X198.here hx rfl (hb hby at_137) ?_
    show Steps p.tables e below (T198.setTop (mkF m 139 #[.val (.long q0), .second, .val (.int p1), .val (.int p2), .val (.int p3), .val (.int (p2 &&& (3 : Int32))), .val (.int ((p3 &&& (2147483647 : Int32)) % (9 : Int32))), .val (.ref b126), .unset, .unset, .unset, .unset] [(.int (9 : Int32)), (.ref b126)])) _
    refine XS.bipush X198.here hx rfl (hb hby at_139) ?_
    show Steps p.tables e below (T198.setTop (mkF m 141 #[.val (.long q0), .second, .val (.int p1), .val (.int p2), .val (.int p3), .val (.int (p2 &&& (3 : Int32))), .val (.int ((p3 &&& (2147483647 : Int32)) % (9 : Int32))), .val (.ref b126), .unset, .unset, .unset, .unset] [(.int (9 : Int32)), (.int (9 : Int32)), (.ref b126)])) _
    refine XS.iload X198.here hx rfl (hb hby at_141) rfl ?_
    show Steps p.tables e below (T198.setTop (mkF m 143 #[.val (.long q0), .second, .val (.int p1), .val (.int p2), .val (.int p3), .val (.int (p2 &&& (3 : Int32))), .val (.int ((p3 &&& (2147483647 : Int32)) % (9 : Int32))), .val (.ref b126), .unset, .unset, .unset, .unset] [(.int (p2 &&& (3 : Int32))), (.int (9 : Int32)), (.int (9 : Int32)), (.ref b126)])) _
    refine XS.lloadN X198.here hx rfl (hb hby at_143) rfl ?_
    show Steps p.tables e below (T198.setTop (mkF m 144 #[.val (.long q0), .second, .val (.int p1), .val (.int p2), .val (.int p3), .val (.int (p2 &&& (3 : Int32))), .val (.int ((p3 &&& (2147483647 : Int32)) % (9 : Int32))), .val (.ref b126), .unset, .unset, .unset, .unset] [(.long q0), (.int (p2 &&& (3 : Int32))), (.int (9 : Int32)), (.int (9 : Int32)), (.ref b126)])) _
    refine XS.iloadN X198.here hx rfl (hb hby at_144) rfl ?_
    show Steps p.tables e below (T198.setTop (mkF m 145 #[.val (.long q0), .second, .val (.int p1), .val (.int p2), .val (.int p3), .val (.int (p2 &&& (3 : Int32))), .val (.int ((p3 &&& (2147483647 : Int32)) % (9 : Int32))), .val (.ref b126), .unset, .unset, .unset, .unset] [(.int p1), (.long q0), (.int (p2 &&& (3 : Int32))), (.int (9 : Int32)), (.int (9 : Int32)), (.ref b126)])) _
    exact kq)
  have f202 := (Nat.le_trans f194 (Keep.of_wr W198).1)
  obtain ⟨_, _, ⟨T201, L201, k201, n201⟩, -, X201, ⟨Lc201, hQ201, l201, y201, z201⟩, st201⟩ := Jvm.LawKit.callS X198 hx (y := (⟨"com/example/ledgerline/ledgerline/format/GrowingBytesLittleEndianPinLaw", "pick", "(IIJI)B"⟩ : MethodName)) hown (mvT hZ (hw _ (List.mem_of_getElem? (i := 2) rfl))) (mvT hZ (hw _ (List.mem_of_getElem? (i := 3) rfl))) (mvT hZ (hw _ (List.mem_of_getElem? (i := 4) rfl))) (mvT hZ (hw _ (List.mem_of_getElem? (i := 5) rfl))) (by decide) (backOf (W := 2) (rm1 l Z a0 hw [] (9 : Int32) (p2 &&& (3 : Int32)) q0 p1 h198 n0 f202) hZ (hw _ (List.mem_of_getElem? (i := 5) rfl)) (hw _ (List.mem_of_getElem? (i := 4) rfl)) (by decide) (by decide)) (g := (mkF m 145 #[.val (.long q0), .second, .val (.int p1), .val (.int p2), .val (.int p3), .val (.int (p2 &&& (3 : Int32))), .val (.int ((p3 &&& (2147483647 : Int32)) % (9 : Int32))), .val (.ref b126), .unset, .unset, .unset, .unset] [(.int p1), (.long q0), (.int (p2 &&& (3 : Int32))), (.int (9 : Int32)), (.int (9 : Int32)), (.ref b126)])) rfl (by rw [hml]; rfl) (argsL := [(.int (9 : Int32)), (.int (p2 &&& (3 : Int32))), (.long q0), (.int p1)]) (rest := [(.int (9 : Int32)), (.ref b126)]) (lenOf pd_0 rfl) rfl (by show 2 * 0 + _ ≤ _; exact Nat.le_of_eq rfl) (hb hby at_145) (fun _ _ => ⟨rfl, e198, (by decide : 1 + 0 ≤ _), (by decide : 12 + 0 ≤ _)⟩)
  dsimp only [Pt.U, Pt.locs, Pt.cells, Pt.slots] at X201 l201 y201 z201 st201 hQ201
  obtain rfl : k201 = 1 := y201
  obtain rfl : n201 = 12 := z201
  obtain ⟨rfl, N201q, e201⟩ := hQ201
  have N201 : Fr n0 L201 := by rw [l201]; exact Fr.app N198 N201q
  have G203 : Go p e below A0 (T201.setTop (mkF m 148 #[.val (.long q0), .second, .val (.int p1), .val (.int p2), .val (.int p3), .val (.int (p2 &&& (3 : Int32))), .val (.int ((p3 &&& (2147483647 : Int32)) % (9 : Int32))), .val (.ref b126), .unset, .unset, .unset, .unset] [(.int (own_pk (9 : Int32) (p2 &&& (3 : Int32)) q0 p1)), (.int (9 : Int32)), (.ref b126)])) := fun tq kq => G200 tq (st201 _ kq)
  obtain ⟨cl204, Ar204, q204, S204, M204, H204, Gf204⟩ := id V198'
  have hi205 : ¬ ((9 : Int32) < 0 ∨ cl204.slots.size ≤ ((9 : Int32)).toNatClampNeg) := (inb_of S204 ⟨by decide, by decide⟩)
  obtain ⟨T206, h206, X206, e206, W206, st206⟩ := stB X201 hx hZ e201 Ar204 (j := (9 : Int32)) hi205 (g := (mkF m 148 #[.val (.long q0), .second, .val (.int p1), .val (.int p2), .val (.int p3), .val (.int (p2 &&& (3 : Int32))), .val (.int ((p3 &&& (2147483647 : Int32)) % (9 : Int32))), .val (.ref b126), .unset, .unset, .unset, .unset] [(.int (own_pk (9 : Int32) (p2 &&& (3 : Int32)) q0 p1)), (.int (9 : Int32)), (.ref b126)])) rfl rfl (hb hby at_148)
  rw [show nar .byte (own_pk (9 : Int32) (p2 &&& (3 : Int32)) q0 p1) = (own_pk (9 : Int32) (p2 &&& (3 : Int32)) q0 p1) from own_pkn _ _ _ _] at W206
  have N206 := Fr.snoc X206 N201 g_b126
  have V206 := Arv.set Ar204 q204 S204 M204 H204 Gf204 (own_pkf _ _ _ _) W206 9 rfl (Nat.le_of_ble_eq_true rfl)
  have V206' : Arv Z h206 b126 k126 .byte (12 : Int32) [(.int (own_pk (0 : Int32) (p2 &&& (3 : Int32)) q0 p1)), (.int (own_pk (1 : Int32) (p2 &&& (3 : Int32)) q0 p1)), (.int (own_pk (2 : Int32) (p2 &&& (3 : Int32)) q0 p1)), (.int (own_pk (3 : Int32) (p2 &&& (3 : Int32)) q0 p1)), (.int (own_pk (4 : Int32) (p2 &&& (3 : Int32)) q0 p1)), (.int (own_pk (5 : Int32) (p2 &&& (3 : Int32)) q0 p1)), (.int (own_pk (6 : Int32) (p2 &&& (3 : Int32)) q0 p1)), (.int (own_pk (7 : Int32) (p2 &&& (3 : Int32)) q0 p1)), (.int (own_pk (8 : Int32) (p2 &&& (3 : Int32)) q0 p1)), (.int (own_pk (9 : Int32) (p2 &&& (3 : Int32)) q0 p1)), (.int (0 : Int32)), (.int (0 : Int32))] (.int (0 : Int32)) := by simp only [List.set_cons_succ, List.set_cons_zero] at V206; exact V206
  have G207 : Go p e below A0 (T206.setTop (mkF m 149 #[.val (.long q0), .second, .val (.int p1), .val (.int p2), .val (.int p3), .val (.int (p2 &&& (3 : Int32))), .val (.int ((p3 &&& (2147483647 : Int32)) % (9 : Int32))), .val (.ref b126), .unset, .unset, .unset, .unset] [])) := fun tq kq => G203 tq (st206 _ kq)
  have G208 : Go p e below A0 (T206.setTop (mkF m 159 #[.val (.long q0), .second, .val (.int p1), .val (.int p2), .val (.int p3), .val (.int (p2 &&& (3 : Int32))), .val (.int ((p3 &&& (2147483647 : Int32)) % (9 : Int32))), .val (.ref b126), .unset, .unset, .unset, .unset] [(.int p1), (.long q0), (.int (p2 &&& (3 : Int32))), (.int (10 : Int32)), (.int (10 : Int32)), (.ref b126)])) := fun tq kq => G207 tq (by
    refine XS.aload X206.here hx rfl (hb hby at_149) rfl rfl ?_
    show Steps p.tables e below (T206.setTop (mkF m 151 #[.val (.long q0), .second, .val (.int p1), .val (.int p2), .val (.int p3), .val (.int (p2 &&& (3 : Int32))), .val (.int ((p3 &&& (2147483647 : Int32)) % (9 : Int32))), .val (.ref b126), .unset, .unset, .unset, .unset] [(.ref b126)])) _
    refine XS.bipush X206.here hx rfl (hb hby at_151) ?_
    show Steps p.tables e below (T206.setTop (mkF m 153 #[.val (.long q0), .second, .val (.int p1), .val (.int p2), .val (.int p3), .val (.int (p2 &&& (3 : Int32))), .val (.int ((p3 &&& (2147483647 : Int32)) % (9 : Int32))), .val (.ref b126), .unset, .unset, .unset, .unset] [(.int (10 : Int32)), (.ref b126)])) _
    refine XS.bipush X206.here hx rfl (hb hby at_153) ?_
    show Steps p.tables e below (T206.setTop (mkF m 155 #[.val (.long q0), .second, .val (.int p1), .val (.int p2), .val (.int p3), .val (.int (p2 &&& (3 : Int32))), .val (.int ((p3 &&& (2147483647 : Int32)) % (9 : Int32))), .val (.ref b126), .unset, .unset, .unset, .unset] [(.int (10 : Int32)), (.int (10 : Int32)), (.ref b126)])) _
    refine XS.iload X206.here hx rfl (hb hby at_155) rfl ?_
    show Steps p.tables e below (T206.setTop (mkF m 157 #[.val (.long q0), .second, .val (.int p1), .val (.int p2), .val (.int p3), .val (.int (p2 &&& (3 : Int32))), .val (.int ((p3 &&& (2147483647 : Int32)) % (9 : Int32))), .val (.ref b126), .unset, .unset, .unset, .unset] [(.int (p2 &&& (3 : Int32))), (.int (10 : Int32)), (.int (10 : Int32)), (.ref b126)])) _
    refine XS.lloadN X206.here hx rfl (hb hby at_157) rfl ?_
    show Steps p.tables e below (T206.setTop (mkF m 158 #[.val (.long q0), .second, .val (.int p1), .val (.int p2), .val (.int p3), .val (.int (p2 &&& (3 : Int32))), .val (.int ((p3 &&& (2147483647 : Int32)) % (9 : Int32))), .val (.ref b126), .unset, .unset, .unset, .unset] [(.long q0), (.int (p2 &&& (3 : Int32))), (.int (10 : Int32)), (.int (10 : Int32)), (.ref b126)])) _
    refine XS.iloadN X206.here hx rfl (hb hby at_158) rfl ?_
    show Steps p.tables e below (T206.setTop (mkF m 159 #[.val (.long q0), .second, .val (.int p1), .val (.int p2), .val (.int p3), .val (.int (p2 &&& (3 : Int32))), .val (.int ((p3 &&& (2147483647 : Int32)) % (9 : Int32))), .val (.ref b126), .unset, .unset, .unset, .unset] [(.int p1), (.long q0), (.int (p2 &&& (3 : Int32))), (.int (10 : Int32)), (.int (10 : Int32)), (.ref b126)])) _
    exact kq)
  have f210 := (Nat.le_trans f202 (Keep.of_wr W206).1)
  obtain ⟨_, _, ⟨T209, L209, k209, n209⟩, -, X209, ⟨Lc209, hQ209, l209, y209, z209⟩, st209⟩ := Jvm.LawKit.callS X206 hx (y := (⟨"com/example/ledgerline/ledgerline/format/GrowingBytesLittleEndianPinLaw", "pick", "(IIJI)B"⟩ : MethodName)) hown (mvT hZ (hw _ (List.mem_of_getElem? (i := 2) rfl))) (mvT hZ (hw _ (List.mem_of_getElem? (i := 3) rfl))) (mvT hZ (hw _ (List.mem_of_getElem? (i := 4) rfl))) (mvT hZ (hw _ (List.mem_of_getElem? (i := 5) rfl))) (by decide) (backOf (W := 2) (rm1 l Z a0 hw [] (10 : Int32) (p2 &&& (3 : Int32)) q0 p1 h206 n0 f210) hZ (hw _ (List.mem_of_getElem? (i := 5) rfl)) (hw _ (List.mem_of_getElem? (i := 4) rfl)) (by decide) (by decide)) (g := (mkF m 159 #[.val (.long q0), .second, .val (.int p1), .val (.int p2), .val (.int p3), .val (.int (p2 &&& (3 : Int32))), .val (.int ((p3 &&& (2147483647 : Int32)) % (9 : Int32))), .val (.ref b126), .unset, .unset, .unset, .unset] [(.int p1), (.long q0), (.int (p2 &&& (3 : Int32))), (.int (10 : Int32)), (.int (10 : Int32)), (.ref b126)])) rfl (by rw [hml]; rfl) (argsL := [(.int (10 : Int32)), (.int (p2 &&& (3 : Int32))), (.long q0), (.int p1)]) (rest := [(.int (10 : Int32)), (.ref b126)]) (lenOf pd_0 rfl) rfl (by show 2 * 0 + _ ≤ _; exact Nat.le_of_eq rfl) (hb hby at_159) (fun _ _ => ⟨rfl, e206, (by decide : 1 + 0 ≤ _), (by decide : 12 + 0 ≤ _)⟩)
  dsimp only [Pt.U, Pt.locs, Pt.cells, Pt.slots] at X209 l209 y209 z209 st209 hQ209
  obtain rfl : k209 = 1 := y209
  obtain rfl : n209 = 12 := z209
  obtain ⟨rfl, N209q, e209⟩ := hQ209
  have N209 : Fr n0 L209 := by rw [l209]; exact Fr.app N206 N209q
  have G211 : Go p e below A0 (T209.setTop (mkF m 162 #[.val (.long q0), .second, .val (.int p1), .val (.int p2), .val (.int p3), .val (.int (p2 &&& (3 : Int32))), .val (.int ((p3 &&& (2147483647 : Int32)) % (9 : Int32))), .val (.ref b126), .unset, .unset, .unset, .unset] [(.int (own_pk (10 : Int32) (p2 &&& (3 : Int32)) q0 p1)), (.int (10 : Int32)), (.ref b126)])) := fun tq kq => G208 tq (st209 _ kq)
  obtain ⟨cl212, Ar212, q212, S212, M212, H212, Gf212⟩ := id V206'
  have hi213 : ¬ ((10 : Int32) < 0 ∨ cl212.slots.size ≤ ((10 : Int32)).toNatClampNeg) := (inb_of S212 ⟨by decide, by decide⟩)
  obtain ⟨T214, h214, X214, e214, W214, st214⟩ := stB X209 hx hZ e209 Ar212 (j := (10 : Int32)) hi213 (g := (mkF m 162 #[.val (.long q0), .second, .val (.int p1), .val (.int p2), .val (.int p3), .val (.int (p2 &&& (3 : Int32))), .val (.int ((p3 &&& (2147483647 : Int32)) % (9 : Int32))), .val (.ref b126), .unset, .unset, .unset, .unset] [(.int (own_pk (10 : Int32) (p2 &&& (3 : Int32)) q0 p1)), (.int (10 : Int32)), (.ref b126)])) rfl rfl (hb hby at_162)
  rw [show nar .byte (own_pk (10 : Int32) (p2 &&& (3 : Int32)) q0 p1) = (own_pk (10 : Int32) (p2 &&& (3 : Int32)) q0 p1) from own_pkn _ _ _ _] at W214
  have N214 := Fr.snoc X214 N209 g_b126
  have V214 := Arv.set Ar212 q212 S212 M212 H212 Gf212 (own_pkf _ _ _ _) W214 10 rfl (Nat.le_of_ble_eq_true rfl)
  have V214' : Arv Z h214 b126 k126 .byte (12 : Int32) [(.int (own_pk (0 : Int32) (p2 &&& (3 : Int32)) q0 p1)), (.int (own_pk (1 : Int32) (p2 &&& (3 : Int32)) q0 p1)), (.int (own_pk (2 : Int32) (p2 &&& (3 : Int32)) q0 p1)), (.int (own_pk (3 : Int32) (p2 &&& (3 : Int32)) q0 p1)), (.int (own_pk (4 : Int32) (p2 &&& (3 : Int32)) q0 p1)), (.int (own_pk (5 : Int32) (p2 &&& (3 : Int32)) q0 p1)), (.int (own_pk (6 : Int32) (p2 &&& (3 : Int32)) q0 p1)), (.int (own_pk (7 : Int32) (p2 &&& (3 : Int32)) q0 p1)), (.int (own_pk (8 : Int32) (p2 &&& (3 : Int32)) q0 p1)), (.int (own_pk (9 : Int32) (p2 &&& (3 : Int32)) q0 p1)), (.int (own_pk (10 : Int32) (p2 &&& (3 : Int32)) q0 p1)), (.int (0 : Int32))] (.int (0 : Int32)) := by simp only [List.set_cons_succ, List.set_cons_zero] at V214; exact V214
  have G215 : Go p e below A0 (T214.setTop (mkF m 163 #[.val (.long q0), .second, .val (.int p1), .val (.int p2), .val (.int p3), .val (.int (p2 &&& (3 : Int32))), .val (.int ((p3 &&& (2147483647 : Int32)) % (9 : Int32))), .val (.ref b126), .unset, .unset, .unset, .unset] [])) := fun tq kq => G211 tq (st214 _ kq)
  have G216 : Go p e below A0 (T214.setTop (mkF m 173 #[.val (.long q0), .second, .val (.int p1), .val (.int p2), .val (.int p3), .val (.int (p2 &&& (3 : Int32))), .val (.int ((p3 &&& (2147483647 : Int32)) % (9 : Int32))), .val (.ref b126), .unset, .unset, .unset, .unset] [(.int p1), (.long q0), (.int (p2 &&& (3 : Int32))), (.int (11 : Int32)), (.int (11 : Int32)), (.ref b126)])) := fun tq kq => G215 tq (by
    refine XS.aload X214.here hx rfl (hb hby at_163) rfl rfl ?_
    show Steps p.tables e below (T214.setTop (mkF m 165 #[.val (.long q0), .second, .val (.int p1), .val (.int p2), .val (.int p3), .val (.int (p2 &&& (3 : Int32))), .val (.int ((p3 &&& (2147483647 : Int32)) % (9 : Int32))), .val (.ref b126), .unset, .unset, .unset, .unset] [(.ref b126)])) _
    refine XS.bipush X214.here hx rfl (hb hby at_165) ?_
    show Steps p.tables e below (T214.setTop (mkF m 167 #[.val (.long q0), .second, .val (.int p1), .val (.int p2), .val (.int p3), .val (.int (p2 &&& (3 : Int32))), .val (.int ((p3 &&& (2147483647 : Int32)) % (9 : Int32))), .val (.ref b126), .unset, .unset, .unset, .unset] [(.int (11 : Int32)), (.ref b126)])) _
    refine XS.bipush X214.here hx rfl (hb hby at_167) ?_
    show Steps p.tables e below (T214.setTop (mkF m 169 #[.val (.long q0), .second, .val (.int p1), .val (.int p2), .val (.int p3), .val (.int (p2 &&& (3 : Int32))), .val (.int ((p3 &&& (2147483647 : Int32)) % (9 : Int32))), .val (.ref b126), .unset, .unset, .unset, .unset] [(.int (11 : Int32)), (.int (11 : Int32)), (.ref b126)])) _
    refine XS.iload X214.here hx rfl (hb hby at_169) rfl ?_
    show Steps p.tables e below (T214.setTop (mkF m 171 #[.val (.long q0), .second, .val (.int p1), .val (.int p2), .val (.int p3), .val (.int (p2 &&& (3 : Int32))), .val (.int ((p3 &&& (2147483647 : Int32)) % (9 : Int32))), .val (.ref b126), .unset, .unset, .unset, .unset] [(.int (p2 &&& (3 : Int32))), (.int (11 : Int32)), (.int (11 : Int32)), (.ref b126)])) _
    refine XS.lloadN X214.here hx rfl (hb hby at_171) rfl ?_
    show Steps p.tables e below (T214.setTop (mkF m 172 #[.val (.long q0), .second, .val (.int p1), .val (.int p2), .val (.int p3), .val (.int (p2 &&& (3 : Int32))), .val (.int ((p3 &&& (2147483647 : Int32)) % (9 : Int32))), .val (.ref b126), .unset, .unset, .unset, .unset] [(.long q0), (.int (p2 &&& (3 : Int32))), (.int (11 : Int32)), (.int (11 : Int32)), (.ref b126)])) _
    refine XS.iloadN X214.here hx rfl (hb hby at_172) rfl ?_
    show Steps p.tables e below (T214.setTop (mkF m 173 #[.val (.long q0), .second, .val (.int p1), .val (.int p2), .val (.int p3), .val (.int (p2 &&& (3 : Int32))), .val (.int ((p3 &&& (2147483647 : Int32)) % (9 : Int32))), .val (.ref b126), .unset, .unset, .unset, .unset] [(.int p1), (.long q0), (.int (p2 &&& (3 : Int32))), (.int (11 : Int32)), (.int (11 : Int32)), (.ref b126)])) _
    exact kq)
  have f218 := (Nat.le_trans f210 (Keep.of_wr W214).1)
  obtain ⟨_, _, ⟨T217, L217, k217, n217⟩, -, X217, ⟨Lc217, hQ217, l217, y217, z217⟩, st217⟩ := Jvm.LawKit.callS X214 hx (y := (⟨"com/example/ledgerline/ledgerline/format/GrowingBytesLittleEndianPinLaw", "pick", "(IIJI)B"⟩ : MethodName)) hown (mvT hZ (hw _ (List.mem_of_getElem? (i := 2) rfl))) (mvT hZ (hw _ (List.mem_of_getElem? (i := 3) rfl))) (mvT hZ (hw _ (List.mem_of_getElem? (i := 4) rfl))) (mvT hZ (hw _ (List.mem_of_getElem? (i := 5) rfl))) (by decide) (backOf (W := 2) (rm1 l Z a0 hw [] (11 : Int32) (p2 &&& (3 : Int32)) q0 p1 h214 n0 f218) hZ (hw _ (List.mem_of_getElem? (i := 5) rfl)) (hw _ (List.mem_of_getElem? (i := 4) rfl)) (by decide) (by decide)) (g := (mkF m 173 #[.val (.long q0), .second, .val (.int p1), .val (.int p2), .val (.int p3), .val (.int (p2 &&& (3 : Int32))), .val (.int ((p3 &&& (2147483647 : Int32)) % (9 : Int32))), .val (.ref b126), .unset, .unset, .unset, .unset] [(.int p1), (.long q0), (.int (p2 &&& (3 : Int32))), (.int (11 : Int32)), (.int (11 : Int32)), (.ref b126)])) rfl (by rw [hml]; rfl) (argsL := [(.int (11 : Int32)), (.int (p2 &&& (3 : Int32))), (.long q0), (.int p1)]) (rest := [(.int (11 : Int32)), (.ref b126)]) (lenOf pd_0 rfl) rfl (by show 2 * 0 + _ ≤ _; exact Nat.le_of_eq rfl) (hb hby at_173) (fun _ _ => ⟨rfl, e214, (by decide : 1 + 0 ≤ _), (by decide : 12 + 0 ≤ _)⟩)
  dsimp only [Pt.U, Pt.locs, Pt.cells, Pt.slots] at X217 l217 y217 z217 st217 hQ217
  obtain rfl : k217 = 1 := y217
  obtain rfl : n217 = 12 := z217
  obtain ⟨rfl, N217q, e217⟩ := hQ217
  have N217 : Fr n0 L217 := by rw [l217]; exact Fr.app N214 N217q
  have G219 : Go p e below A0 (T217.setTop (mkF m 176 #[.val (.long q0), .second, .val (.int p1), .val (.int p2), .val (.int p3), .val (.int (p2 &&& (3 : Int32))), .val (.int ((p3 &&& (2147483647 : Int32)) % (9 : Int32))), .val (.ref b126), .unset, .unset, .unset, .unset] [(.int (own_pk (11 : Int32) (p2 &&& (3 : Int32)) q0 p1)), (.int (11 : Int32)), (.ref b126)])) := fun tq kq => G216 tq (st217 _ kq)
  obtain ⟨cl220, Ar220, q220, S220, M220, H220, Gf220⟩ := id V214'
  have hi221 : ¬ ((11 : Int32) < 0 ∨ cl220.slots.size ≤ ((11 : Int32)).toNatClampNeg) := (inb_of S220 ⟨by decide, by decide⟩)
  obtain ⟨T222, h222, X222, e222, W222, st222⟩ := stB X217 hx hZ e217 Ar220 (j := (11 : Int32)) hi221 (g := (mkF m 176 #[.val (.long q0), .second, .val (.int p1), .val (.int p2), .val (.int p3), .val (.int (p2 &&& (3 : Int32))), .val (.int ((p3 &&& (2147483647 : Int32)) % (9 : Int32))), .val (.ref b126), .unset, .unset, .unset, .unset] [(.int (own_pk (11 : Int32) (p2 &&& (3 : Int32)) q0 p1)), (.int (11 : Int32)), (.ref b126)])) rfl rfl (hb hby at_176)
  rw [show nar .byte (own_pk (11 : Int32) (p2 &&& (3 : Int32)) q0 p1) = (own_pk (11 : Int32) (p2 &&& (3 : Int32)) q0 p1) from own_pkn _ _ _ _] at W222
  have N222 := Fr.snoc X222 N217 g_b126
  have V222 := Arv.set Ar220 q220 S220 M220 H220 Gf220 (own_pkf _ _ _ _) W222 11 rfl (Nat.le_of_ble_eq_true rfl)
  have V222' : Arv Z h222 b126 k126 .byte (12 : Int32) [(.int (own_pk (0 : Int32) (p2 &&& (3 : Int32)) q0 p1)), (.int (own_pk (1 : Int32) (p2 &&& (3 : Int32)) q0 p1)), (.int (own_pk (2 : Int32) (p2 &&& (3 : Int32)) q0 p1)), (.int (own_pk (3 : Int32) (p2 &&& (3 : Int32)) q0 p1)), (.int (own_pk (4 : Int32) (p2 &&& (3 : Int32)) q0 p1)), (.int (own_pk (5 : Int32) (p2 &&& (3 : Int32)) q0 p1)), (.int (own_pk (6 : Int32) (p2 &&& (3 : Int32)) q0 p1)), (.int (own_pk (7 : Int32) (p2 &&& (3 : Int32)) q0 p1)), (.int (own_pk (8 : Int32) (p2 &&& (3 : Int32)) q0 p1)), (.int (own_pk (9 : Int32) (p2 &&& (3 : Int32)) q0 p1)), (.int (own_pk (10 : Int32) (p2 &&& (3 : Int32)) q0 p1)), (.int (own_pk (11 : Int32) (p2 &&& (3 : Int32)) q0 p1))] (.int (0 : Int32)) := by simp only [List.set_cons_succ, List.set_cons_zero] at V222; exact V222
  have G223 : Go p e below A0 (T222.setTop (mkF m 177 #[.val (.long q0), .second, .val (.int p1), .val (.int p2), .val (.int p3), .val (.int (p2 &&& (3 : Int32))), .val (.int ((p3 &&& (2147483647 : Int32)) % (9 : Int32))), .val (.ref b126), .unset, .unset, .unset, .unset] [])) := fun tq kq => G219 tq (st222 _ kq)
  have G224 : Go p e below A0 (T222.setTop (mkF m 183 #[.val (.long q0), .second, .val (.int p1), .val (.int p2), .val (.int p3), .val (.int (p2 &&& (3 : Int32))), .val (.int ((p3 &&& (2147483647 : Int32)) % (9 : Int32))), .val (.ref b126), .unset, .unset, .unset, .unset] [(.int ((p3 &&& (2147483647 : Int32)) % (9 : Int32))), (.int (p2 &&& (3 : Int32))), (.ref b126)])) := fun tq kq => G223 tq (by
    refine XS.aload X222.here hx rfl (hb hby at_177) rfl rfl ?_
    show Steps p.tables e below (T222.setTop (mkF m 179 #[.val (.long q0), .second, .val (.int p1), .val (.int p2), .val (.int p3), .val (.int (p2 &&& (3 : Int32))), .val (.int ((p3 &&& (2147483647 : Int32)) % (9 : Int32))), .val (.ref b126), .unset, .unset, .unset, .unset] [(.ref b126)])) _
    refine XS.iload X222.here hx rfl (hb hby at_179) rfl ?_
    show Steps p.tables e below (T222.setTop (mkF m 181 #[.val (.long q0), .second, .val (.int p1), .val (.int p2), .val (.int p3), .val (.int (p2 &&& (3 : Int32))), .val (.int ((p3 &&& (2147483647 : Int32)) % (9 : Int32))), .val (.ref b126), .unset, .unset, .unset, .unset] [(.int (p2 &&& (3 : Int32))), (.ref b126)])) _
    refine XS.iload X222.here hx rfl (hb hby at_181) rfl ?_
    show Steps p.tables e below (T222.setTop (mkF m 183 #[.val (.long q0), .second, .val (.int p1), .val (.int p2), .val (.int p3), .val (.int (p2 &&& (3 : Int32))), .val (.int ((p3 &&& (2147483647 : Int32)) % (9 : Int32))), .val (.ref b126), .unset, .unset, .unset, .unset] [(.int ((p3 &&& (2147483647 : Int32)) % (9 : Int32))), (.int (p2 &&& (3 : Int32))), (.ref b126)])) _
    exact kq)
  rcases own_nine p3 with hk | hk | hk | hk | hk | hk | hk | hk | hk
  · have G225 : Go p e below A0 (T222.setTop (mkF m 183 #[.val (.long q0), .second, .val (.int p1), .val (.int p2), .val (.int p3), .val (.int (p2 &&& (3 : Int32))), .val (.int (0 : Int32)), .val (.ref b126), .unset, .unset, .unset, .unset] [(.int (0 : Int32)), (.int (p2 &&& (3 : Int32))), (.ref b126)])) := by
      have q := G224
      rw [hk] at q
      exact q
    have f227 := (Nat.le_trans f218 (Keep.of_wr W222).1)
    obtain ⟨_, _, ⟨T226, L226, k226, n226⟩, -, X226, ⟨Lc226, hQ226, l226, y226, z226⟩, st226⟩ := Jvm.LawKit.callS X222 hx (y := (⟨"com/example/ledgerline/ledgerline/format/GrowingBytes", "littleEndian", "([BII)J"⟩ : MethodName)) hown (mvT hZ (hw _ (List.mem_of_getElem? (i := 6) rfl))) (mvT hZ (hw _ (List.mem_of_getElem? (i := 7) rfl))) (mvT hZ (hw _ (List.mem_of_getElem? (i := 8) rfl))) (mvT hZ (hw _ (List.mem_of_getElem? (i := 9) rfl))) (by decide) (backOf (W := 0) (rm2_0 l Z a0 hw [] b126 (p2 &&& (3 : Int32)) q0 k126 [(.int (own_pk (0 : Int32) (p2 &&& (3 : Int32)) q0 p1)), (.int (own_pk (1 : Int32) (p2 &&& (3 : Int32)) q0 p1)), (.int (own_pk (2 : Int32) (p2 &&& (3 : Int32)) q0 p1)), (.int (own_pk (3 : Int32) (p2 &&& (3 : Int32)) q0 p1)), (.int (own_pk (4 : Int32) (p2 &&& (3 : Int32)) q0 p1)), (.int (own_pk (5 : Int32) (p2 &&& (3 : Int32)) q0 p1)), (.int (own_pk (6 : Int32) (p2 &&& (3 : Int32)) q0 p1)), (.int (own_pk (7 : Int32) (p2 &&& (3 : Int32)) q0 p1)), (.int (own_pk (8 : Int32) (p2 &&& (3 : Int32)) q0 p1)), (.int (own_pk (9 : Int32) (p2 &&& (3 : Int32)) q0 p1)), (.int (own_pk (10 : Int32) (p2 &&& (3 : Int32)) q0 p1)), (.int (own_pk (11 : Int32) (p2 &&& (3 : Int32)) q0 p1))] h222 n0 f227 V222' (own_hat (p2 &&& (3 : Int32)) q0 p1 (own_four p2))) hZ (hw _ (List.mem_of_getElem? (i := 9) rfl)) (hw _ (List.mem_of_getElem? (i := 8) rfl)) (by decide) (by decide)) (g := (mkF m 183 #[.val (.long q0), .second, .val (.int p1), .val (.int p2), .val (.int p3), .val (.int (p2 &&& (3 : Int32))), .val (.int (0 : Int32)), .val (.ref b126), .unset, .unset, .unset, .unset] [(.int (0 : Int32)), (.int (p2 &&& (3 : Int32))), (.ref b126)])) rfl (by rw [hml]; rfl) (argsL := [(.ref b126), (.int (p2 &&& (3 : Int32))), (.int (0 : Int32))]) (rest := []) (lenOf pd_1 rfl) rfl (by show 2 * 0 + _ ≤ _; exact Nat.le_of_eq rfl) (hb hby at_183) (fun _ _ => ⟨rfl, e222, (by decide : 1 + 0 ≤ _), (by decide : 12 + 0 ≤ _)⟩)
    dsimp only [Pt.U, Pt.locs, Pt.cells, Pt.slots] at X226 l226 y226 z226 st226 hQ226
    obtain rfl : k226 = 1 := y226
    obtain rfl : n226 = 12 := z226
    obtain ⟨rfl, N226q, e226⟩ := hQ226
    have N226 : Fr n0 L226 := by rw [l226]; exact Fr.app N222 N226q
    have G228 : Go p e below A0 (T226.setTop (mkF m 186 #[.val (.long q0), .second, .val (.int p1), .val (.int p2), .val (.int p3), .val (.int (p2 &&& (3 : Int32))), .val (.int (0 : Int32)), .val (.ref b126), .unset, .unset, .unset, .unset] [(.long (q0 &&& (((1 : Int64) <<< ((0 : Int32) &&& 0x3f).toInt64) - (1 : Int64))))])) := fun tq kq => G225 tq (st226 _ kq)
    have G229 : Go p e below A0 (T226.setTop (mkF m 227 #[.val (.long q0), .second, .val (.int p1), .val (.int p2), .val (.int p3), .val (.int (p2 &&& (3 : Int32))), .val (.int (0 : Int32)), .val (.ref b126), .val (.long (q0 &&& (((1 : Int64) <<< ((0 : Int32) &&& 0x3f).toInt64) - (1 : Int64)))), .second, .val (.long (q0 &&& (((1 : Int64) <<< ((0 : Int32) &&& 0x3f).toInt64) - (1 : Int64)))), .second] [(.int (1 : Int32))])) := fun tq kq => G228 tq (by
      refine XS.lstore X226.here hx rfl (hb hby at_186) rfl (l' := #[.val (.long q0), .second, .val (.int p1), .val (.int p2), .val (.int p3), .val (.int (p2 &&& (3 : Int32))), .val (.int (0 : Int32)), .val (.ref b126), .val (.long (q0 &&& (((1 : Int64) <<< ((0 : Int32) &&& 0x3f).toInt64) - (1 : Int64)))), .second, .unset, .unset]) rfl ?_
      show Steps p.tables e below (T226.setTop (mkF m 188 #[.val (.long q0), .second, .val (.int p1), .val (.int p2), .val (.int p3), .val (.int (p2 &&& (3 : Int32))), .val (.int (0 : Int32)), .val (.ref b126), .val (.long (q0 &&& (((1 : Int64) <<< ((0 : Int32) &&& 0x3f).toInt64) - (1 : Int64)))), .second, .unset, .unset] [])) _
      refine XS.iload X226.here hx rfl (hb hby at_188) rfl ?_
      show Steps p.tables e below (T226.setTop (mkF m 190 #[.val (.long q0), .second, .val (.int p1), .val (.int p2), .val (.int p3), .val (.int (p2 &&& (3 : Int32))), .val (.int (0 : Int32)), .val (.ref b126), .val (.long (q0 &&& (((1 : Int64) <<< ((0 : Int32) &&& 0x3f).toInt64) - (1 : Int64)))), .second, .unset, .unset] [(.int (0 : Int32))])) _
      refine XS.bipush X226.here hx rfl (hb hby at_190) ?_
      show Steps p.tables e below (T226.setTop (mkF m 192 #[.val (.long q0), .second, .val (.int p1), .val (.int p2), .val (.int p3), .val (.int (p2 &&& (3 : Int32))), .val (.int (0 : Int32)), .val (.ref b126), .val (.long (q0 &&& (((1 : Int64) <<< ((0 : Int32) &&& 0x3f).toInt64) - (1 : Int64)))), .second, .unset, .unset] [(.int (8 : Int32)), (.int (0 : Int32))])) _
      refine XS.icmpYes X226.here hx rfl (pc0 := 192) (pc' := 201) rfl (hb hby at_192) rfl (by decide) (by decide) (by decide) ?_
      show Steps p.tables e below (T226.setTop (mkF m 201 #[.val (.long q0), .second, .val (.int p1), .val (.int p2), .val (.int p3), .val (.int (p2 &&& (3 : Int32))), .val (.int (0 : Int32)), .val (.ref b126), .val (.long (q0 &&& (((1 : Int64) <<< ((0 : Int32) &&& 0x3f).toInt64) - (1 : Int64)))), .second, .unset, .unset] [])) _
      refine XS.lloadN X226.here hx rfl (hb hby at_201) rfl ?_
      show Steps p.tables e below (T226.setTop (mkF m 202 #[.val (.long q0), .second, .val (.int p1), .val (.int p2), .val (.int p3), .val (.int (p2 &&& (3 : Int32))), .val (.int (0 : Int32)), .val (.ref b126), .val (.long (q0 &&& (((1 : Int64) <<< ((0 : Int32) &&& 0x3f).toInt64) - (1 : Int64)))), .second, .unset, .unset] [(.long q0)])) _
      refine XS.lconst X226.here hx rfl (hb hby at_202) ?_
      show Steps p.tables e below (T226.setTop (mkF m 203 #[.val (.long q0), .second, .val (.int p1), .val (.int p2), .val (.int p3), .val (.int (p2 &&& (3 : Int32))), .val (.int (0 : Int32)), .val (.ref b126), .val (.long (q0 &&& (((1 : Int64) <<< ((0 : Int32) &&& 0x3f).toInt64) - (1 : Int64)))), .second, .unset, .unset] [(.long (1 : Int64)), (.long q0)])) _
      refine XS.bipush X226.here hx rfl (hb hby at_203) ?_
      show Steps p.tables e below (T226.setTop (mkF m 205 #[.val (.long q0), .second, .val (.int p1), .val (.int p2), .val (.int p3), .val (.int (p2 &&& (3 : Int32))), .val (.int (0 : Int32)), .val (.ref b126), .val (.long (q0 &&& (((1 : Int64) <<< ((0 : Int32) &&& 0x3f).toInt64) - (1 : Int64)))), .second, .unset, .unset] [(.int (8 : Int32)), (.long (1 : Int64)), (.long q0)])) _
      refine XS.iload X226.here hx rfl (hb hby at_205) rfl ?_
      show Steps p.tables e below (T226.setTop (mkF m 207 #[.val (.long q0), .second, .val (.int p1), .val (.int p2), .val (.int p3), .val (.int (p2 &&& (3 : Int32))), .val (.int (0 : Int32)), .val (.ref b126), .val (.long (q0 &&& (((1 : Int64) <<< ((0 : Int32) &&& 0x3f).toInt64) - (1 : Int64)))), .second, .unset, .unset] [(.int (0 : Int32)), (.int (8 : Int32)), (.long (1 : Int64)), (.long q0)])) _
      refine XS.imul X226.here hx rfl (hb hby at_207) rfl ?_
      show Steps p.tables e below (T226.setTop (mkF m 208 #[.val (.long q0), .second, .val (.int p1), .val (.int p2), .val (.int p3), .val (.int (p2 &&& (3 : Int32))), .val (.int (0 : Int32)), .val (.ref b126), .val (.long (q0 &&& (((1 : Int64) <<< ((0 : Int32) &&& 0x3f).toInt64) - (1 : Int64)))), .second, .unset, .unset] [(.int ((8 : Int32) * (0 : Int32))), (.long (1 : Int64)), (.long q0)])) _
      rw [show ((8 : Int32) * (0 : Int32)) = (0 : Int32) from (by decide : ((8 : Int32) * (0 : Int32)) = (0 : Int32))]
      show Steps p.tables e below (T226.setTop (mkF m 208 #[.val (.long q0), .second, .val (.int p1), .val (.int p2), .val (.int p3), .val (.int (p2 &&& (3 : Int32))), .val (.int (0 : Int32)), .val (.ref b126), .val (.long (q0 &&& (((1 : Int64) <<< ((0 : Int32) &&& 0x3f).toInt64) - (1 : Int64)))), .second, .unset, .unset] [(.int (0 : Int32)), (.long (1 : Int64)), (.long q0)])) _
      refine XS.lshl X226.here hx rfl (hb hby at_208) rfl ?_
      show Steps p.tables e below (T226.setTop (mkF m 209 #[.val (.long q0), .second, .val (.int p1), .val (.int p2), .val (.int p3), .val (.int (p2 &&& (3 : Int32))), .val (.int (0 : Int32)), .val (.ref b126), .val (.long (q0 &&& (((1 : Int64) <<< ((0 : Int32) &&& 0x3f).toInt64) - (1 : Int64)))), .second, .unset, .unset] [(.long ((1 : Int64) <<< ((0 : Int32) &&& 0x3f).toInt64)), (.long q0)])) _
      refine XS.lconst X226.here hx rfl (hb hby at_209) ?_
      show Steps p.tables e below (T226.setTop (mkF m 210 #[.val (.long q0), .second, .val (.int p1), .val (.int p2), .val (.int p3), .val (.int (p2 &&& (3 : Int32))), .val (.int (0 : Int32)), .val (.ref b126), .val (.long (q0 &&& (((1 : Int64) <<< ((0 : Int32) &&& 0x3f).toInt64) - (1 : Int64)))), .second, .unset, .unset] [(.long (1 : Int64)), (.long ((1 : Int64) <<< ((0 : Int32) &&& 0x3f).toInt64)), (.long q0)])) _
      refine XS.lsub X226.here hx rfl (hb hby at_210) rfl ?_
      show Steps p.tables e below (T226.setTop (mkF m 211 #[.val (.long q0), .second, .val (.int p1), .val (.int p2), .val (.int p3), .val (.int (p2 &&& (3 : Int32))), .val (.int (0 : Int32)), .val (.ref b126), .val (.long (q0 &&& (((1 : Int64) <<< ((0 : Int32) &&& 0x3f).toInt64) - (1 : Int64)))), .second, .unset, .unset] [(.long (((1 : Int64) <<< ((0 : Int32) &&& 0x3f).toInt64) - (1 : Int64))), (.long q0)])) _
      refine XS.land X226.here hx rfl (hb hby at_211) rfl ?_
      show Steps p.tables e below (T226.setTop (mkF m 212 #[.val (.long q0), .second, .val (.int p1), .val (.int p2), .val (.int p3), .val (.int (p2 &&& (3 : Int32))), .val (.int (0 : Int32)), .val (.ref b126), .val (.long (q0 &&& (((1 : Int64) <<< ((0 : Int32) &&& 0x3f).toInt64) - (1 : Int64)))), .second, .unset, .unset] [(.long (q0 &&& (((1 : Int64) <<< ((0 : Int32) &&& 0x3f).toInt64) - (1 : Int64))))])) _
      refine XS.lstore X226.here hx rfl (hb hby at_212) rfl (l' := #[.val (.long q0), .second, .val (.int p1), .val (.int p2), .val (.int p3), .val (.int (p2 &&& (3 : Int32))), .val (.int (0 : Int32)), .val (.ref b126), .val (.long (q0 &&& (((1 : Int64) <<< ((0 : Int32) &&& 0x3f).toInt64) - (1 : Int64)))), .second, .val (.long (q0 &&& (((1 : Int64) <<< ((0 : Int32) &&& 0x3f).toInt64) - (1 : Int64)))), .second]) rfl ?_
      show Steps p.tables e below (T226.setTop (mkF m 214 #[.val (.long q0), .second, .val (.int p1), .val (.int p2), .val (.int p3), .val (.int (p2 &&& (3 : Int32))), .val (.int (0 : Int32)), .val (.ref b126), .val (.long (q0 &&& (((1 : Int64) <<< ((0 : Int32) &&& 0x3f).toInt64) - (1 : Int64)))), .second, .val (.long (q0 &&& (((1 : Int64) <<< ((0 : Int32) &&& 0x3f).toInt64) - (1 : Int64)))), .second] [])) _
      refine XS.lload X226.here hx rfl (hb hby at_214) rfl ?_
      show Steps p.tables e below (T226.setTop (mkF m 216 #[.val (.long q0), .second, .val (.int p1), .val (.int p2), .val (.int p3), .val (.int (p2 &&& (3 : Int32))), .val (.int (0 : Int32)), .val (.ref b126), .val (.long (q0 &&& (((1 : Int64) <<< ((0 : Int32) &&& 0x3f).toInt64) - (1 : Int64)))), .second, .val (.long (q0 &&& (((1 : Int64) <<< ((0 : Int32) &&& 0x3f).toInt64) - (1 : Int64)))), .second] [(.long (q0 &&& (((1 : Int64) <<< ((0 : Int32) &&& 0x3f).toInt64) - (1 : Int64))))])) _
      refine XS.lload X226.here hx rfl (hb hby at_216) rfl ?_
      show Steps p.tables e below (T226.setTop (mkF m 218 #[.val (.long q0), .second, .val (.int p1), .val (.int p2), .val (.int p3), .val (.int (p2 &&& (3 : Int32))), .val (.int (0 : Int32)), .val (.ref b126), .val (.long (q0 &&& (((1 : Int64) <<< ((0 : Int32) &&& 0x3f).toInt64) - (1 : Int64)))), .second, .val (.long (q0 &&& (((1 : Int64) <<< ((0 : Int32) &&& 0x3f).toInt64) - (1 : Int64)))), .second] [(.long (q0 &&& (((1 : Int64) <<< ((0 : Int32) &&& 0x3f).toInt64) - (1 : Int64)))), (.long (q0 &&& (((1 : Int64) <<< ((0 : Int32) &&& 0x3f).toInt64) - (1 : Int64))))])) _
      refine XS.lcmp X226.here hx rfl (hb hby at_218) rfl ?_
      show Steps p.tables e below (T226.setTop (mkF m 219 #[.val (.long q0), .second, .val (.int p1), .val (.int p2), .val (.int p3), .val (.int (p2 &&& (3 : Int32))), .val (.int (0 : Int32)), .val (.ref b126), .val (.long (q0 &&& (((1 : Int64) <<< ((0 : Int32) &&& 0x3f).toInt64) - (1 : Int64)))), .second, .val (.long (q0 &&& (((1 : Int64) <<< ((0 : Int32) &&& 0x3f).toInt64) - (1 : Int64)))), .second] [(.int (lcmpW (q0 &&& (((1 : Int64) <<< ((0 : Int32) &&& 0x3f).toInt64) - (1 : Int64))) (q0 &&& (((1 : Int64) <<< ((0 : Int32) &&& 0x3f).toInt64) - (1 : Int64)))))])) _
      refine XS.ifNo X226.here hx rfl (hb hby at_219) rfl ((if0 _ _).trans (teq ((lw_eq _ _).mpr rfl)).2) ?_
      show Steps p.tables e below (T226.setTop (mkF m 222 #[.val (.long q0), .second, .val (.int p1), .val (.int p2), .val (.int p3), .val (.int (p2 &&& (3 : Int32))), .val (.int (0 : Int32)), .val (.ref b126), .val (.long (q0 &&& (((1 : Int64) <<< ((0 : Int32) &&& 0x3f).toInt64) - (1 : Int64)))), .second, .val (.long (q0 &&& (((1 : Int64) <<< ((0 : Int32) &&& 0x3f).toInt64) - (1 : Int64)))), .second] [])) _
      refine XS.iconst X226.here hx rfl (hb hby at_222) ?_
      show Steps p.tables e below (T226.setTop (mkF m 223 #[.val (.long q0), .second, .val (.int p1), .val (.int p2), .val (.int p3), .val (.int (p2 &&& (3 : Int32))), .val (.int (0 : Int32)), .val (.ref b126), .val (.long (q0 &&& (((1 : Int64) <<< ((0 : Int32) &&& 0x3f).toInt64) - (1 : Int64)))), .second, .val (.long (q0 &&& (((1 : Int64) <<< ((0 : Int32) &&& 0x3f).toInt64) - (1 : Int64)))), .second] [(.int (1 : Int32))])) _
      refine XS.goto X226.here hx rfl (pc0 := 223) (pc' := 227) rfl (hb hby at_223) (by decide) (by decide) ?_
      show Steps p.tables e below (T226.setTop (mkF m 227 #[.val (.long q0), .second, .val (.int p1), .val (.int p2), .val (.int p3), .val (.int (p2 &&& (3 : Int32))), .val (.int (0 : Int32)), .val (.ref b126), .val (.long (q0 &&& (((1 : Int64) <<< ((0 : Int32) &&& 0x3f).toInt64) - (1 : Int64)))), .second, .val (.long (q0 &&& (((1 : Int64) <<< ((0 : Int32) &&& 0x3f).toInt64) - (1 : Int64)))), .second] [(.int (1 : Int32))])) _
      exact kq)
    obtain ⟨fs, hr, hrun, hended, hW, hsame⟩ := X226.leave (v := some (.int (nar .boolean (1 : Int32)))) (fun h => by rw [Bd.returns] at h; cases h)
    refine ⟨_, _, (by rw [← hA0]; exact G229 _ (retN X226 hx (t := .boolean) Bd.returns (by simp) (hb hby at_227) hr)), hrun, hended, _, _, rfl, ?_, ⟨_, rfl⟩, hW, hsame.mono (by decide) (by decide)⟩
    exact ⟨rfl, N226⟩
  · have G230 : Go p e below A0 (T222.setTop (mkF m 183 #[.val (.long q0), .second, .val (.int p1), .val (.int p2), .val (.int p3), .val (.int (p2 &&& (3 : Int32))), .val (.int (1 : Int32)), .val (.ref b126), .unset, .unset, .unset, .unset] [(.int (1 : Int32)), (.int (p2 &&& (3 : Int32))), (.ref b126)])) := by
      have q := G224
      rw [hk] at q
      exact q
    have f232 := (Nat.le_trans f218 (Keep.of_wr W222).1)
    obtain ⟨_, _, ⟨T231, L231, k231, n231⟩, -, X231, ⟨Lc231, hQ231, l231, y231, z231⟩, st231⟩ := Jvm.LawKit.callS X222 hx (y := (⟨"com/example/ledgerline/ledgerline/format/GrowingBytes", "littleEndian", "([BII)J"⟩ : MethodName)) hown (mvT hZ (hw _ (List.mem_of_getElem? (i := 6) rfl))) (mvT hZ (hw _ (List.mem_of_getElem? (i := 7) rfl))) (mvT hZ (hw _ (List.mem_of_getElem? (i := 8) rfl))) (mvT hZ (hw _ (List.mem_of_getElem? (i := 9) rfl))) (by decide) (backOf (W := 0) (rm2_1 l Z a0 hw [] b126 (p2 &&& (3 : Int32)) q0 k126 [(.int (own_pk (0 : Int32) (p2 &&& (3 : Int32)) q0 p1)), (.int (own_pk (1 : Int32) (p2 &&& (3 : Int32)) q0 p1)), (.int (own_pk (2 : Int32) (p2 &&& (3 : Int32)) q0 p1)), (.int (own_pk (3 : Int32) (p2 &&& (3 : Int32)) q0 p1)), (.int (own_pk (4 : Int32) (p2 &&& (3 : Int32)) q0 p1)), (.int (own_pk (5 : Int32) (p2 &&& (3 : Int32)) q0 p1)), (.int (own_pk (6 : Int32) (p2 &&& (3 : Int32)) q0 p1)), (.int (own_pk (7 : Int32) (p2 &&& (3 : Int32)) q0 p1)), (.int (own_pk (8 : Int32) (p2 &&& (3 : Int32)) q0 p1)), (.int (own_pk (9 : Int32) (p2 &&& (3 : Int32)) q0 p1)), (.int (own_pk (10 : Int32) (p2 &&& (3 : Int32)) q0 p1)), (.int (own_pk (11 : Int32) (p2 &&& (3 : Int32)) q0 p1))] h222 n0 f232 V222' (own_hat (p2 &&& (3 : Int32)) q0 p1 (own_four p2))) hZ (hw _ (List.mem_of_getElem? (i := 9) rfl)) (hw _ (List.mem_of_getElem? (i := 8) rfl)) (by decide) (by decide)) (g := (mkF m 183 #[.val (.long q0), .second, .val (.int p1), .val (.int p2), .val (.int p3), .val (.int (p2 &&& (3 : Int32))), .val (.int (1 : Int32)), .val (.ref b126), .unset, .unset, .unset, .unset] [(.int (1 : Int32)), (.int (p2 &&& (3 : Int32))), (.ref b126)])) rfl (by rw [hml]; rfl) (argsL := [(.ref b126), (.int (p2 &&& (3 : Int32))), (.int (1 : Int32))]) (rest := []) (lenOf pd_1 rfl) rfl (by show 2 * 0 + _ ≤ _; exact Nat.le_of_eq rfl) (hb hby at_183) (fun _ _ => ⟨rfl, e222, (by decide : 1 + 0 ≤ _), (by decide : 12 + 0 ≤ _)⟩)
    dsimp only [Pt.U, Pt.locs, Pt.cells, Pt.slots] at X231 l231 y231 z231 st231 hQ231
    obtain rfl : k231 = 1 := y231
    obtain rfl : n231 = 12 := z231
    obtain ⟨rfl, N231q, e231⟩ := hQ231
    have N231 : Fr n0 L231 := by rw [l231]; exact Fr.app N222 N231q
    have G233 : Go p e below A0 (T231.setTop (mkF m 186 #[.val (.long q0), .second, .val (.int p1), .val (.int p2), .val (.int p3), .val (.int (p2 &&& (3 : Int32))), .val (.int (1 : Int32)), .val (.ref b126), .unset, .unset, .unset, .unset] [(.long (q0 &&& (((1 : Int64) <<< ((8 : Int32) &&& 0x3f).toInt64) - (1 : Int64))))])) := fun tq kq => G230 tq (st231 _ kq)
    have G234 : Go p e below A0 (T231.setTop (mkF m 227 #[.val (.long q0), .second, .val (.int p1), .val (.int p2), .val (.int p3), .val (.int (p2 &&& (3 : Int32))), .val (.int (1 : Int32)), .val (.ref b126), .val (.long (q0 &&& (((1 : Int64) <<< ((8 : Int32) &&& 0x3f).toInt64) - (1 : Int64)))), .second, .val (.long (q0 &&& (((1 : Int64) <<< ((8 : Int32) &&& 0x3f).toInt64) - (1 : Int64)))), .second] [(.int (1 : Int32))])) := fun tq kq => G233 tq (by
      refine XS.lstore X231.here hx rfl (hb hby at_186) rfl (l' := #[.val (.long q0), .second, .val (.int p1), .val (.int p2), .val (.int p3), .val (.int (p2 &&& (3 : Int32))), .val (.int (1 : Int32)), .val (.ref b126), .val (.long (q0 &&& (((1 : Int64) <<< ((8 : Int32) &&& 0x3f).toInt64) - (1 : Int64)))), .second, .unset, .unset]) rfl ?_
      show Steps p.tables e below (T231.setTop (mkF m 188 #[.val (.long q0), .second, .val (.int p1), .val (.int p2), .val (.int p3), .val (.int (p2 &&& (3 : Int32))), .val (.int (1 : Int32)), .val (.ref b126), .val (.long (q0 &&& (((1 : Int64) <<< ((8 : Int32) &&& 0x3f).toInt64) - (1 : Int64)))), .second, .unset, .unset] [])) _
      refine XS.iload X231.here hx rfl (hb hby at_188) rfl ?_
      show Steps p.tables e below (T231.setTop (mkF m 190 #[.val (.long q0), .second, .val (.int p1), .val (.int p2), .val (.int p3), .val (.int (p2 &&& (3 : Int32))), .val (.int (1 : Int32)), .val (.ref b126), .val (.long (q0 &&& (((1 : Int64) <<< ((8 : Int32) &&& 0x3f).toInt64) - (1 : Int64)))), .second, .unset, .unset] [(.int (1 : Int32))])) _
      refine XS.bipush X231.here hx rfl (hb hby at_190) ?_
      show Steps p.tables e below (T231.setTop (mkF m 192 #[.val (.long q0), .second, .val (.int p1), .val (.int p2), .val (.int p3), .val (.int (p2 &&& (3 : Int32))), .val (.int (1 : Int32)), .val (.ref b126), .val (.long (q0 &&& (((1 : Int64) <<< ((8 : Int32) &&& 0x3f).toInt64) - (1 : Int64)))), .second, .unset, .unset] [(.int (8 : Int32)), (.int (1 : Int32))])) _
      refine XS.icmpYes X231.here hx rfl (pc0 := 192) (pc' := 201) rfl (hb hby at_192) rfl (by decide) (by decide) (by decide) ?_
      show Steps p.tables e below (T231.setTop (mkF m 201 #[.val (.long q0), .second, .val (.int p1), .val (.int p2), .val (.int p3), .val (.int (p2 &&& (3 : Int32))), .val (.int (1 : Int32)), .val (.ref b126), .val (.long (q0 &&& (((1 : Int64) <<< ((8 : Int32) &&& 0x3f).toInt64) - (1 : Int64)))), .second, .unset, .unset] [])) _
      refine XS.lloadN X231.here hx rfl (hb hby at_201) rfl ?_
      show Steps p.tables e below (T231.setTop (mkF m 202 #[.val (.long q0), .second, .val (.int p1), .val (.int p2), .val (.int p3), .val (.int (p2 &&& (3 : Int32))), .val (.int (1 : Int32)), .val (.ref b126), .val (.long (q0 &&& (((1 : Int64) <<< ((8 : Int32) &&& 0x3f).toInt64) - (1 : Int64)))), .second, .unset, .unset] [(.long q0)])) _
      refine XS.lconst X231.here hx rfl (hb hby at_202) ?_
      show Steps p.tables e below (T231.setTop (mkF m 203 #[.val (.long q0), .second, .val (.int p1), .val (.int p2), .val (.int p3), .val (.int (p2 &&& (3 : Int32))), .val (.int (1 : Int32)), .val (.ref b126), .val (.long (q0 &&& (((1 : Int64) <<< ((8 : Int32) &&& 0x3f).toInt64) - (1 : Int64)))), .second, .unset, .unset] [(.long (1 : Int64)), (.long q0)])) _
      refine XS.bipush X231.here hx rfl (hb hby at_203) ?_
      show Steps p.tables e below (T231.setTop (mkF m 205 #[.val (.long q0), .second, .val (.int p1), .val (.int p2), .val (.int p3), .val (.int (p2 &&& (3 : Int32))), .val (.int (1 : Int32)), .val (.ref b126), .val (.long (q0 &&& (((1 : Int64) <<< ((8 : Int32) &&& 0x3f).toInt64) - (1 : Int64)))), .second, .unset, .unset] [(.int (8 : Int32)), (.long (1 : Int64)), (.long q0)])) _
      refine XS.iload X231.here hx rfl (hb hby at_205) rfl ?_
      show Steps p.tables e below (T231.setTop (mkF m 207 #[.val (.long q0), .second, .val (.int p1), .val (.int p2), .val (.int p3), .val (.int (p2 &&& (3 : Int32))), .val (.int (1 : Int32)), .val (.ref b126), .val (.long (q0 &&& (((1 : Int64) <<< ((8 : Int32) &&& 0x3f).toInt64) - (1 : Int64)))), .second, .unset, .unset] [(.int (1 : Int32)), (.int (8 : Int32)), (.long (1 : Int64)), (.long q0)])) _
      refine XS.imul X231.here hx rfl (hb hby at_207) rfl ?_
      show Steps p.tables e below (T231.setTop (mkF m 208 #[.val (.long q0), .second, .val (.int p1), .val (.int p2), .val (.int p3), .val (.int (p2 &&& (3 : Int32))), .val (.int (1 : Int32)), .val (.ref b126), .val (.long (q0 &&& (((1 : Int64) <<< ((8 : Int32) &&& 0x3f).toInt64) - (1 : Int64)))), .second, .unset, .unset] [(.int ((8 : Int32) * (1 : Int32))), (.long (1 : Int64)), (.long q0)])) _
      rw [show ((8 : Int32) * (1 : Int32)) = (8 : Int32) from (by decide : ((8 : Int32) * (1 : Int32)) = (8 : Int32))]
      show Steps p.tables e below (T231.setTop (mkF m 208 #[.val (.long q0), .second, .val (.int p1), .val (.int p2), .val (.int p3), .val (.int (p2 &&& (3 : Int32))), .val (.int (1 : Int32)), .val (.ref b126), .val (.long (q0 &&& (((1 : Int64) <<< ((8 : Int32) &&& 0x3f).toInt64) - (1 : Int64)))), .second, .unset, .unset] [(.int (8 : Int32)), (.long (1 : Int64)), (.long q0)])) _
      refine XS.lshl X231.here hx rfl (hb hby at_208) rfl ?_
      show Steps p.tables e below (T231.setTop (mkF m 209 #[.val (.long q0), .second, .val (.int p1), .val (.int p2), .val (.int p3), .val (.int (p2 &&& (3 : Int32))), .val (.int (1 : Int32)), .val (.ref b126), .val (.long (q0 &&& (((1 : Int64) <<< ((8 : Int32) &&& 0x3f).toInt64) - (1 : Int64)))), .second, .unset, .unset] [(.long ((1 : Int64) <<< ((8 : Int32) &&& 0x3f).toInt64)), (.long q0)])) _
      refine XS.lconst X231.here hx rfl (hb hby at_209) ?_
      show Steps p.tables e below (T231.setTop (mkF m 210 #[.val (.long q0), .second, .val (.int p1), .val (.int p2), .val (.int p3), .val (.int (p2 &&& (3 : Int32))), .val (.int (1 : Int32)), .val (.ref b126), .val (.long (q0 &&& (((1 : Int64) <<< ((8 : Int32) &&& 0x3f).toInt64) - (1 : Int64)))), .second, .unset, .unset] [(.long (1 : Int64)), (.long ((1 : Int64) <<< ((8 : Int32) &&& 0x3f).toInt64)), (.long q0)])) _
      refine XS.lsub X231.here hx rfl (hb hby at_210) rfl ?_
      show Steps p.tables e below (T231.setTop (mkF m 211 #[.val (.long q0), .second, .val (.int p1), .val (.int p2), .val (.int p3), .val (.int (p2 &&& (3 : Int32))), .val (.int (1 : Int32)), .val (.ref b126), .val (.long (q0 &&& (((1 : Int64) <<< ((8 : Int32) &&& 0x3f).toInt64) - (1 : Int64)))), .second, .unset, .unset] [(.long (((1 : Int64) <<< ((8 : Int32) &&& 0x3f).toInt64) - (1 : Int64))), (.long q0)])) _
      refine XS.land X231.here hx rfl (hb hby at_211) rfl ?_
      show Steps p.tables e below (T231.setTop (mkF m 212 #[.val (.long q0), .second, .val (.int p1), .val (.int p2), .val (.int p3), .val (.int (p2 &&& (3 : Int32))), .val (.int (1 : Int32)), .val (.ref b126), .val (.long (q0 &&& (((1 : Int64) <<< ((8 : Int32) &&& 0x3f).toInt64) - (1 : Int64)))), .second, .unset, .unset] [(.long (q0 &&& (((1 : Int64) <<< ((8 : Int32) &&& 0x3f).toInt64) - (1 : Int64))))])) _
      refine XS.lstore X231.here hx rfl (hb hby at_212) rfl (l' := #[.val (.long q0), .second, .val (.int p1), .val (.int p2), .val (.int p3), .val (.int (p2 &&& (3 : Int32))), .val (.int (1 : Int32)), .val (.ref b126), .val (.long (q0 &&& (((1 : Int64) <<< ((8 : Int32) &&& 0x3f).toInt64) - (1 : Int64)))), .second, .val (.long (q0 &&& (((1 : Int64) <<< ((8 : Int32) &&& 0x3f).toInt64) - (1 : Int64)))), .second]) rfl ?_
      show Steps p.tables e below (T231.setTop (mkF m 214 #[.val (.long q0), .second, .val (.int p1), .val (.int p2), .val (.int p3), .val (.int (p2 &&& (3 : Int32))), .val (.int (1 : Int32)), .val (.ref b126), .val (.long (q0 &&& (((1 : Int64) <<< ((8 : Int32) &&& 0x3f).toInt64) - (1 : Int64)))), .second, .val (.long (q0 &&& (((1 : Int64) <<< ((8 : Int32) &&& 0x3f).toInt64) - (1 : Int64)))), .second] [])) _
      refine XS.lload X231.here hx rfl (hb hby at_214) rfl ?_
      show Steps p.tables e below (T231.setTop (mkF m 216 #[.val (.long q0), .second, .val (.int p1), .val (.int p2), .val (.int p3), .val (.int (p2 &&& (3 : Int32))), .val (.int (1 : Int32)), .val (.ref b126), .val (.long (q0 &&& (((1 : Int64) <<< ((8 : Int32) &&& 0x3f).toInt64) - (1 : Int64)))), .second, .val (.long (q0 &&& (((1 : Int64) <<< ((8 : Int32) &&& 0x3f).toInt64) - (1 : Int64)))), .second] [(.long (q0 &&& (((1 : Int64) <<< ((8 : Int32) &&& 0x3f).toInt64) - (1 : Int64))))])) _
      refine XS.lload X231.here hx rfl (hb hby at_216) rfl ?_
      show Steps p.tables e below (T231.setTop (mkF m 218 #[.val (.long q0), .second, .val (.int p1), .val (.int p2), .val (.int p3), .val (.int (p2 &&& (3 : Int32))), .val (.int (1 : Int32)), .val (.ref b126), .val (.long (q0 &&& (((1 : Int64) <<< ((8 : Int32) &&& 0x3f).toInt64) - (1 : Int64)))), .second, .val (.long (q0 &&& (((1 : Int64) <<< ((8 : Int32) &&& 0x3f).toInt64) - (1 : Int64)))), .second] [(.long (q0 &&& (((1 : Int64) <<< ((8 : Int32) &&& 0x3f).toInt64) - (1 : Int64)))), (.long (q0 &&& (((1 : Int64) <<< ((8 : Int32) &&& 0x3f).toInt64) - (1 : Int64))))])) _
      refine XS.lcmp X231.here hx rfl (hb hby at_218) rfl ?_
      show Steps p.tables e below (T231.setTop (mkF m 219 #[.val (.long q0), .second, .val (.int p1), .val (.int p2), .val (.int p3), .val (.int (p2 &&& (3 : Int32))), .val (.int (1 : Int32)), .val (.ref b126), .val (.long (q0 &&& (((1 : Int64) <<< ((8 : Int32) &&& 0x3f).toInt64) - (1 : Int64)))), .second, .val (.long (q0 &&& (((1 : Int64) <<< ((8 : Int32) &&& 0x3f).toInt64) - (1 : Int64)))), .second] [(.int (lcmpW (q0 &&& (((1 : Int64) <<< ((8 : Int32) &&& 0x3f).toInt64) - (1 : Int64))) (q0 &&& (((1 : Int64) <<< ((8 : Int32) &&& 0x3f).toInt64) - (1 : Int64)))))])) _
      refine XS.ifNo X231.here hx rfl (hb hby at_219) rfl ((if0 _ _).trans (teq ((lw_eq _ _).mpr rfl)).2) ?_
      show Steps p.tables e below (T231.setTop (mkF m 222 #[.val (.long q0), .second, .val (.int p1), .val (.int p2), .val (.int p3), .val (.int (p2 &&& (3 : Int32))), .val (.int (1 : Int32)), .val (.ref b126), .val (.long (q0 &&& (((1 : Int64) <<< ((8 : Int32) &&& 0x3f).toInt64) - (1 : Int64)))), .second, .val (.long (q0 &&& (((1 : Int64) <<< ((8 : Int32) &&& 0x3f).toInt64) - (1 : Int64)))), .second] [])) _
      refine XS.iconst X231.here hx rfl (hb hby at_222) ?_
      show Steps p.tables e below (T231.setTop (mkF m 223 #[.val (.long q0), .second, .val (.int p1), .val (.int p2), .val (.int p3), .val (.int (p2 &&& (3 : Int32))), .val (.int (1 : Int32)), .val (.ref b126), .val (.long (q0 &&& (((1 : Int64) <<< ((8 : Int32) &&& 0x3f).toInt64) - (1 : Int64)))), .second, .val (.long (q0 &&& (((1 : Int64) <<< ((8 : Int32) &&& 0x3f).toInt64) - (1 : Int64)))), .second] [(.int (1 : Int32))])) _
      refine XS.goto X231.here hx rfl (pc0 := 223) (pc' := 227) rfl (hb hby at_223) (by decide) (by decide) ?_
      show Steps p.tables e below (T231.setTop (mkF m 227 #[.val (.long q0), .second, .val (.int p1), .val (.int p2), .val (.int p3), .val (.int (p2 &&& (3 : Int32))), .val (.int (1 : Int32)), .val (.ref b126), .val (.long (q0 &&& (((1 : Int64) <<< ((8 : Int32) &&& 0x3f).toInt64) - (1 : Int64)))), .second, .val (.long (q0 &&& (((1 : Int64) <<< ((8 : Int32) &&& 0x3f).toInt64) - (1 : Int64)))), .second] [(.int (1 : Int32))])) _
      exact kq)
    obtain ⟨fs, hr, hrun, hended, hW, hsame⟩ := X231.leave (v := some (.int (nar .boolean (1 : Int32)))) (fun h => by rw [Bd.returns] at h; cases h)
    refine ⟨_, _, (by rw [← hA0]; exact G234 _ (retN X231 hx (t := .boolean) Bd.returns (by simp) (hb hby at_227) hr)), hrun, hended, _, _, rfl, ?_, ⟨_, rfl⟩, hW, hsame.mono (by decide) (by decide)⟩
    exact ⟨rfl, N231⟩
  · have G235 : Go p e below A0 (T222.setTop (mkF m 183 #[.val (.long q0), .second, .val (.int p1), .val (.int p2), .val (.int p3), .val (.int (p2 &&& (3 : Int32))), .val (.int (2 : Int32)), .val (.ref b126), .unset, .unset, .unset, .unset] [(.int (2 : Int32)), (.int (p2 &&& (3 : Int32))), (.ref b126)])) := by
      have q := G224
      rw [hk] at q
      exact q
    have f237 := (Nat.le_trans f218 (Keep.of_wr W222).1)
    obtain ⟨_, _, ⟨T236, L236, k236, n236⟩, -, X236, ⟨Lc236, hQ236, l236, y236, z236⟩, st236⟩ := Jvm.LawKit.callS X222 hx (y := (⟨"com/example/ledgerline/ledgerline/format/GrowingBytes", "littleEndian", "([BII)J"⟩ : MethodName)) hown (mvT hZ (hw _ (List.mem_of_getElem? (i := 6) rfl))) (mvT hZ (hw _ (List.mem_of_getElem? (i := 7) rfl))) (mvT hZ (hw _ (List.mem_of_getElem? (i := 8) rfl))) (mvT hZ (hw _ (List.mem_of_getElem? (i := 9) rfl))) (by decide) (backOf (W := 0) (rm2_2 l Z a0 hw [] b126 (p2 &&& (3 : Int32)) q0 k126 [(.int (own_pk (0 : Int32) (p2 &&& (3 : Int32)) q0 p1)), (.int (own_pk (1 : Int32) (p2 &&& (3 : Int32)) q0 p1)), (.int (own_pk (2 : Int32) (p2 &&& (3 : Int32)) q0 p1)), (.int (own_pk (3 : Int32) (p2 &&& (3 : Int32)) q0 p1)), (.int (own_pk (4 : Int32) (p2 &&& (3 : Int32)) q0 p1)), (.int (own_pk (5 : Int32) (p2 &&& (3 : Int32)) q0 p1)), (.int (own_pk (6 : Int32) (p2 &&& (3 : Int32)) q0 p1)), (.int (own_pk (7 : Int32) (p2 &&& (3 : Int32)) q0 p1)), (.int (own_pk (8 : Int32) (p2 &&& (3 : Int32)) q0 p1)), (.int (own_pk (9 : Int32) (p2 &&& (3 : Int32)) q0 p1)), (.int (own_pk (10 : Int32) (p2 &&& (3 : Int32)) q0 p1)), (.int (own_pk (11 : Int32) (p2 &&& (3 : Int32)) q0 p1))] h222 n0 f237 V222' (own_hat (p2 &&& (3 : Int32)) q0 p1 (own_four p2))) hZ (hw _ (List.mem_of_getElem? (i := 9) rfl)) (hw _ (List.mem_of_getElem? (i := 8) rfl)) (by decide) (by decide)) (g := (mkF m 183 #[.val (.long q0), .second, .val (.int p1), .val (.int p2), .val (.int p3), .val (.int (p2 &&& (3 : Int32))), .val (.int (2 : Int32)), .val (.ref b126), .unset, .unset, .unset, .unset] [(.int (2 : Int32)), (.int (p2 &&& (3 : Int32))), (.ref b126)])) rfl (by rw [hml]; rfl) (argsL := [(.ref b126), (.int (p2 &&& (3 : Int32))), (.int (2 : Int32))]) (rest := []) (lenOf pd_1 rfl) rfl (by show 2 * 0 + _ ≤ _; exact Nat.le_of_eq rfl) (hb hby at_183) (fun _ _ => ⟨rfl, e222, (by decide : 1 + 0 ≤ _), (by decide : 12 + 0 ≤ _)⟩)
    dsimp only [Pt.U, Pt.locs, Pt.cells, Pt.slots] at X236 l236 y236 z236 st236 hQ236
    obtain rfl : k236 = 1 := y236
    obtain rfl : n236 = 12 := z236
    obtain ⟨rfl, N236q, e236⟩ := hQ236
    have N236 : Fr n0 L236 := by rw [l236]; exact Fr.app N222 N236q
    have G238 : Go p e below A0 (T236.setTop (mkF m 186 #[.val (.long q0), .second, .val (.int p1), .val (.int p2), .val (.int p3), .val (.int (p2 &&& (3 : Int32))), .val (.int (2 : Int32)), .val (.ref b126), .unset, .unset, .unset, .unset] [(.long (q0 &&& (((1 : Int64) <<< ((16 : Int32) &&& 0x3f).toInt64) - (1 : Int64))))])) := fun tq kq => G235 tq (st236 _ kq)
    have G239 : Go p e below A0 (T236.setTop (mkF m 227 #[.val (.long q0), .second, .val (.int p1), .val (.int p2), .val (.int p3), .val (.int (p2 &&& (3 : Int32))), .val (.int (2 : Int32)), .val (.ref b126), .val (.long (q0 &&& (((1 : Int64) <<< ((16 : Int32) &&& 0x3f).toInt64) - (1 : Int64)))), .second, .val (.long (q0 &&& (((1 : Int64) <<< ((16 : Int32) &&& 0x3f).toInt64) - (1 : Int64)))), .second] [(.int (1 : Int32))])) := fun tq kq => G238 tq (by
      refine XS.lstore X236.here hx rfl (hb hby at_186) rfl (l' := #[.val (.long q0), .second, .val (.int p1), .val (.int p2), .val (.int p3), .val (.int (p2 &&& (3 : Int32))), .val (.int (2 : Int32)), .val (.ref b126), .val (.long (q0 &&& (((1 : Int64) <<< ((16 : Int32) &&& 0x3f).toInt64) - (1 : Int64)))), .second, .unset, .unset]) rfl ?_
      show Steps p.tables e below (T236.setTop (mkF m 188 #[.val (.long q0), .second, .val (.int p1), .val (.int p2), .val (.int p3), .val (.int (p2 &&& (3 : Int32))), .val (.int (2 : Int32)), .val (.ref b126), .val (.long (q0 &&& (((1 : Int64) <<< ((16 : Int32) &&& 0x3f).toInt64) - (1 : Int64)))), .second, .unset, .unset] [])) _
      refine XS.iload X236.here hx rfl (hb hby at_188) rfl ?_
      show Steps p.tables e below (T236.setTop (mkF m 190 #[.val (.long q0), .second, .val (.int p1), .val (.int p2), .val (.int p3), .val (.int (p2 &&& (3 : Int32))), .val (.int (2 : Int32)), .val (.ref b126), .val (.long (q0 &&& (((1 : Int64) <<< ((16 : Int32) &&& 0x3f).toInt64) - (1 : Int64)))), .second, .unset, .unset] [(.int (2 : Int32))])) _
      refine XS.bipush X236.here hx rfl (hb hby at_190) ?_
      show Steps p.tables e below (T236.setTop (mkF m 192 #[.val (.long q0), .second, .val (.int p1), .val (.int p2), .val (.int p3), .val (.int (p2 &&& (3 : Int32))), .val (.int (2 : Int32)), .val (.ref b126), .val (.long (q0 &&& (((1 : Int64) <<< ((16 : Int32) &&& 0x3f).toInt64) - (1 : Int64)))), .second, .unset, .unset] [(.int (8 : Int32)), (.int (2 : Int32))])) _
      refine XS.icmpYes X236.here hx rfl (pc0 := 192) (pc' := 201) rfl (hb hby at_192) rfl (by decide) (by decide) (by decide) ?_
      show Steps p.tables e below (T236.setTop (mkF m 201 #[.val (.long q0), .second, .val (.int p1), .val (.int p2), .val (.int p3), .val (.int (p2 &&& (3 : Int32))), .val (.int (2 : Int32)), .val (.ref b126), .val (.long (q0 &&& (((1 : Int64) <<< ((16 : Int32) &&& 0x3f).toInt64) - (1 : Int64)))), .second, .unset, .unset] [])) _
      refine XS.lloadN X236.here hx rfl (hb hby at_201) rfl ?_
      show Steps p.tables e below (T236.setTop (mkF m 202 #[.val (.long q0), .second, .val (.int p1), .val (.int p2), .val (.int p3), .val (.int (p2 &&& (3 : Int32))), .val (.int (2 : Int32)), .val (.ref b126), .val (.long (q0 &&& (((1 : Int64) <<< ((16 : Int32) &&& 0x3f).toInt64) - (1 : Int64)))), .second, .unset, .unset] [(.long q0)])) _
      refine XS.lconst X236.here hx rfl (hb hby at_202) ?_
      show Steps p.tables e below (T236.setTop (mkF m 203 #[.val (.long q0), .second, .val (.int p1), .val (.int p2), .val (.int p3), .val (.int (p2 &&& (3 : Int32))), .val (.int (2 : Int32)), .val (.ref b126), .val (.long (q0 &&& (((1 : Int64) <<< ((16 : Int32) &&& 0x3f).toInt64) - (1 : Int64)))), .second, .unset, .unset] [(.long (1 : Int64)), (.long q0)])) _
      refine XS.bipush X236.here hx rfl (hb hby at_203) ?_
      show Steps p.tables e below (T236.setTop (mkF m 205 #[.val (.long q0), .second, .val (.int p1), .val (.int p2), .val (.int p3), .val (.int (p2 &&& (3 : Int32))), .val (.int (2 : Int32)), .val (.ref b126), .val (.long (q0 &&& (((1 : Int64) <<< ((16 : Int32) &&& 0x3f).toInt64) - (1 : Int64)))), .second, .unset, .unset] [(.int (8 : Int32)), (.long (1 : Int64)), (.long q0)])) _
      refine XS.iload X236.here hx rfl (hb hby at_205) rfl ?_
      show Steps p.tables e below (T236.setTop (mkF m 207 #[.val (.long q0), .second, .val (.int p1), .val (.int p2), .val (.int p3), .val (.int (p2 &&& (3 : Int32))), .val (.int (2 : Int32)), .val (.ref b126), .val (.long (q0 &&& (((1 : Int64) <<< ((16 : Int32) &&& 0x3f).toInt64) - (1 : Int64)))), .second, .unset, .unset] [(.int (2 : Int32)), (.int (8 : Int32)), (.long (1 : Int64)), (.long q0)])) _
      refine XS.imul X236.here hx rfl (hb hby at_207) rfl ?_
      show Steps p.tables e below (T236.setTop (mkF m 208 #[.val (.long q0), .second, .val (.int p1), .val (.int p2), .val (.int p3), .val (.int (p2 &&& (3 : Int32))), .val (.int (2 : Int32)), .val (.ref b126), .val (.long (q0 &&& (((1 : Int64) <<< ((16 : Int32) &&& 0x3f).toInt64) - (1 : Int64)))), .second, .unset, .unset] [(.int ((8 : Int32) * (2 : Int32))), (.long (1 : Int64)), (.long q0)])) _
      rw [show ((8 : Int32) * (2 : Int32)) = (16 : Int32) from (by decide : ((8 : Int32) * (2 : Int32)) = (16 : Int32))]
      show Steps p.tables e below (T236.setTop (mkF m 208 #[.val (.long q0), .second, .val (.int p1), .val (.int p2), .val (.int p3), .val (.int (p2 &&& (3 : Int32))), .val (.int (2 : Int32)), .val (.ref b126), .val (.long (q0 &&& (((1 : Int64) <<< ((16 : Int32) &&& 0x3f).toInt64) - (1 : Int64)))), .second, .unset, .unset] [(.int (16 : Int32)), (.long (1 : Int64)), (.long q0)])) _
      refine XS.lshl X236.here hx rfl (hb hby at_208) rfl ?_
      show Steps p.tables e below (T236.setTop (mkF m 209 #[.val (.long q0), .second, .val (.int p1), .val (.int p2), .val (.int p3), .val (.int (p2 &&& (3 : Int32))), .val (.int (2 : Int32)), .val (.ref b126), .val (.long (q0 &&& (((1 : Int64) <<< ((16 : Int32) &&& 0x3f).toInt64) - (1 : Int64)))), .second, .unset, .unset] [(.long ((1 : Int64) <<< ((16 : Int32) &&& 0x3f).toInt64)), (.long q0)])) _
      refine XS.lconst X236.here hx rfl (hb hby at_209) ?_
      show Steps p.tables e below (T236.setTop (mkF m 210 #[.val (.long q0), .second, .val (.int p1), .val (.int p2), .val (.int p3), .val (.int (p2 &&& (3 : Int32))), .val (.int (2 : Int32)), .val (.ref b126), .val (.long (q0 &&& (((1 : Int64) <<< ((16 : Int32) &&& 0x3f).toInt64) - (1 : Int64)))), .second, .unset, .unset] [(.long (1 : Int64)), (.long ((1 : Int64) <<< ((16 : Int32) &&& 0x3f).toInt64)), (.long q0)])) _
      refine XS.lsub X236.here hx rfl (hb hby at_210) rfl ?_
      show Steps p.tables e below (T236.setTop (mkF m 211 #[.val (.long q0), .second, .val (.int p1), .val (.int p2), .val (.int p3), .val (.int (p2 &&& (3 : Int32))), .val (.int (2 : Int32)), .val (.ref b126), .val (.long (q0 &&& (((1 : Int64) <<< ((16 : Int32) &&& 0x3f).toInt64) - (1 : Int64)))), .second, .unset, .unset] [(.long (((1 : Int64) <<< ((16 : Int32) &&& 0x3f).toInt64) - (1 : Int64))), (.long q0)])) _
      refine XS.land X236.here hx rfl (hb hby at_211) rfl ?_
      show Steps p.tables e below (T236.setTop (mkF m 212 #[.val (.long q0), .second, .val (.int p1), .val (.int p2), .val (.int p3), .val (.int (p2 &&& (3 : Int32))), .val (.int (2 : Int32)), .val (.ref b126), .val (.long (q0 &&& (((1 : Int64) <<< ((16 : Int32) &&& 0x3f).toInt64) - (1 : Int64)))), .second, .unset, .unset] [(.long (q0 &&& (((1 : Int64) <<< ((16 : Int32) &&& 0x3f).toInt64) - (1 : Int64))))])) _
      refine XS.lstore X236.here hx rfl (hb hby at_212) rfl (l' := #[.val (.long q0), .second, .val (.int p1), .val (.int p2), .val (.int p3), .val (.int (p2 &&& (3 : Int32))), .val (.int (2 : Int32)), .val (.ref b126), .val (.long (q0 &&& (((1 : Int64) <<< ((16 : Int32) &&& 0x3f).toInt64) - (1 : Int64)))), .second, .val (.long (q0 &&& (((1 : Int64) <<< ((16 : Int32) &&& 0x3f).toInt64) - (1 : Int64)))), .second]) rfl ?_
      show Steps p.tables e below (T236.setTop (mkF m 214 #[.val (.long q0), .second, .val (.int p1), .val (.int p2), .val (.int p3), .val (.int (p2 &&& (3 : Int32))), .val (.int (2 : Int32)), .val (.ref b126), .val (.long (q0 &&& (((1 : Int64) <<< ((16 : Int32) &&& 0x3f).toInt64) - (1 : Int64)))), .second, .val (.long (q0 &&& (((1 : Int64) <<< ((16 : Int32) &&& 0x3f).toInt64) - (1 : Int64)))), .second] [])) _
      refine XS.lload X236.here hx rfl (hb hby at_214) rfl ?_
      show Steps p.tables e below (T236.setTop (mkF m 216 #[.val (.long q0), .second, .val (.int p1), .val (.int p2), .val (.int p3), .val (.int (p2 &&& (3 : Int32))), .val (.int (2 : Int32)), .val (.ref b126), .val (.long (q0 &&& (((1 : Int64) <<< ((16 : Int32) &&& 0x3f).toInt64) - (1 : Int64)))), .second, .val (.long (q0 &&& (((1 : Int64) <<< ((16 : Int32) &&& 0x3f).toInt64) - (1 : Int64)))), .second] [(.long (q0 &&& (((1 : Int64) <<< ((16 : Int32) &&& 0x3f).toInt64) - (1 : Int64))))])) _
      refine XS.lload X236.here hx rfl (hb hby at_216) rfl ?_
      show Steps p.tables e below (T236.setTop (mkF m 218 #[.val (.long q0), .second, .val (.int p1), .val (.int p2), .val (.int p3), .val (.int (p2 &&& (3 : Int32))), .val (.int (2 : Int32)), .val (.ref b126), .val (.long (q0 &&& (((1 : Int64) <<< ((16 : Int32) &&& 0x3f).toInt64) - (1 : Int64)))), .second, .val (.long (q0 &&& (((1 : Int64) <<< ((16 : Int32) &&& 0x3f).toInt64) - (1 : Int64)))), .second] [(.long (q0 &&& (((1 : Int64) <<< ((16 : Int32) &&& 0x3f).toInt64) - (1 : Int64)))), (.long (q0 &&& (((1 : Int64) <<< ((16 : Int32) &&& 0x3f).toInt64) - (1 : Int64))))])) _
      refine XS.lcmp X236.here hx rfl (hb hby at_218) rfl ?_
      show Steps p.tables e below (T236.setTop (mkF m 219 #[.val (.long q0), .second, .val (.int p1), .val (.int p2), .val (.int p3), .val (.int (p2 &&& (3 : Int32))), .val (.int (2 : Int32)), .val (.ref b126), .val (.long (q0 &&& (((1 : Int64) <<< ((16 : Int32) &&& 0x3f).toInt64) - (1 : Int64)))), .second, .val (.long (q0 &&& (((1 : Int64) <<< ((16 : Int32) &&& 0x3f).toInt64) - (1 : Int64)))), .second] [(.int (lcmpW (q0 &&& (((1 : Int64) <<< ((16 : Int32) &&& 0x3f).toInt64) - (1 : Int64))) (q0 &&& (((1 : Int64) <<< ((16 : Int32) &&& 0x3f).toInt64) - (1 : Int64)))))])) _
      refine XS.ifNo X236.here hx rfl (hb hby at_219) rfl ((if0 _ _).trans (teq ((lw_eq _ _).mpr rfl)).2) ?_
      show Steps p.tables e below (T236.setTop (mkF m 222 #[.val (.long q0), .second, .val (.int p1), .val (.int p2), .val (.int p3), .val (.int (p2 &&& (3 : Int32))), .val (.int (2 : Int32)), .val (.ref b126), .val (.long (q0 &&& (((1 : Int64) <<< ((16 : Int32) &&& 0x3f).toInt64) - (1 : Int64)))), .second, .val (.long (q0 &&& (((1 : Int64) <<< ((16 : Int32) &&& 0x3f).toInt64) - (1 : Int64)))), .second] [])) _
      refine XS.iconst X236.here hx rfl (hb hby at_222) ?_
      show Steps p.tables e below (T236.setTop (mkF m 223 #[.val (.long q0), .second, .val (.int p1), .val (.int p2), .val (.int p3), .val (.int (p2 &&& (3 : Int32))), .val (.int (2 : Int32)), .val (.ref b126), .val (.long (q0 &&& (((1 : Int64) <<< ((16 : Int32) &&& 0x3f).toInt64) - (1 : Int64)))), .second, .val (.long (q0 &&& (((1 : Int64) <<< ((16 : Int32) &&& 0x3f).toInt64) - (1 : Int64)))), .second] [(.int (1 : Int32))])) _
      refine XS.goto X236.here hx rfl (pc0 := 223) (pc' := 227) rfl (hb hby at_223) (by decide) (by decide) ?_
      show Steps p.tables e below (T236.setTop (mkF m 227 #[.val (.long q0), .second, .val (.int p1), .val (.int p2), .val (.int p3), .val (.int (p2 &&& (3 : Int32))), .val (.int (2 : Int32)), .val (.ref b126), .val (.long (q0 &&& (((1 : Int64) <<< ((16 : Int32) &&& 0x3f).toInt64) - (1 : Int64)))), .second, .val (.long (q0 &&& (((1 : Int64) <<< ((16 : Int32) &&& 0x3f).toInt64) - (1 : Int64)))), .second] [(.int (1 : Int32))])) _
      exact kq)
    obtain ⟨fs, hr, hrun, hended, hW, hsame⟩ := X236.leave (v := some (.int (nar .boolean (1 : Int32)))) (fun h => by rw [Bd.returns] at h; cases h)
    refine ⟨_, _, (by rw [← hA0]; exact G239 _ (retN X236 hx (t := .boolean) Bd.returns (by simp) (hb hby at_227) hr)), hrun, hended, _, _, rfl, ?_, ⟨_, rfl⟩, hW, hsame.mono (by decide) (by decide)⟩
    exact ⟨rfl, N236⟩
  · have G240 : Go p e below A0 (T222.setTop (mkF m 183 #[.val (.long q0), .second, .val (.int p1), .val (.int p2), .val (.int p3), .val (.int (p2 &&& (3 : Int32))), .val (.int (3 : Int32)), .val (.ref b126), .unset, .unset, .unset, .unset] [(.int (3 : Int32)), (.int (p2 &&& (3 : Int32))), (.ref b126)])) := by
      have q := G224
      rw [hk] at q
      exact q
    have f242 := (Nat.le_trans f218 (Keep.of_wr W222).1)
    obtain ⟨_, _, ⟨T241, L241, k241, n241⟩, -, X241, ⟨Lc241, hQ241, l241, y241, z241⟩, st241⟩ := Jvm.LawKit.callS X222 hx (y := (⟨"com/example/ledgerline/ledgerline/format/GrowingBytes", "littleEndian", "([BII)J"⟩ : MethodName)) hown (mvT hZ (hw _ (List.mem_of_getElem? (i := 6) rfl))) (mvT hZ (hw _ (List.mem_of_getElem? (i := 7) rfl))) (mvT hZ (hw _ (List.mem_of_getElem? (i := 8) rfl))) (mvT hZ (hw _ (List.mem_of_getElem? (i := 9) rfl))) (by decide) (backOf (W := 0) (rm2_3 l Z a0 hw [] b126 (p2 &&& (3 : Int32)) q0 k126 [(.int (own_pk (0 : Int32) (p2 &&& (3 : Int32)) q0 p1)), (.int (own_pk (1 : Int32) (p2 &&& (3 : Int32)) q0 p1)), (.int (own_pk (2 : Int32) (p2 &&& (3 : Int32)) q0 p1)), (.int (own_pk (3 : Int32) (p2 &&& (3 : Int32)) q0 p1)), (.int (own_pk (4 : Int32) (p2 &&& (3 : Int32)) q0 p1)), (.int (own_pk (5 : Int32) (p2 &&& (3 : Int32)) q0 p1)), (.int (own_pk (6 : Int32) (p2 &&& (3 : Int32)) q0 p1)), (.int (own_pk (7 : Int32) (p2 &&& (3 : Int32)) q0 p1)), (.int (own_pk (8 : Int32) (p2 &&& (3 : Int32)) q0 p1)), (.int (own_pk (9 : Int32) (p2 &&& (3 : Int32)) q0 p1)), (.int (own_pk (10 : Int32) (p2 &&& (3 : Int32)) q0 p1)), (.int (own_pk (11 : Int32) (p2 &&& (3 : Int32)) q0 p1))] h222 n0 f242 V222' (own_hat (p2 &&& (3 : Int32)) q0 p1 (own_four p2))) hZ (hw _ (List.mem_of_getElem? (i := 9) rfl)) (hw _ (List.mem_of_getElem? (i := 8) rfl)) (by decide) (by decide)) (g := (mkF m 183 #[.val (.long q0), .second, .val (.int p1), .val (.int p2), .val (.int p3), .val (.int (p2 &&& (3 : Int32))), .val (.int (3 : Int32)), .val (.ref b126), .unset, .unset, .unset, .unset] [(.int (3 : Int32)), (.int (p2 &&& (3 : Int32))), (.ref b126)])) rfl (by rw [hml]; rfl) (argsL := [(.ref b126), (.int (p2 &&& (3 : Int32))), (.int (3 : Int32))]) (rest := []) (lenOf pd_1 rfl) rfl (by show 2 * 0 + _ ≤ _; exact Nat.le_of_eq rfl) (hb hby at_183) (fun _ _ => ⟨rfl, e222, (by decide : 1 + 0 ≤ _), (by decide : 12 + 0 ≤ _)⟩)
    dsimp only [Pt.U, Pt.locs, Pt.cells, Pt.slots] at X241 l241 y241 z241 st241 hQ241
    obtain rfl : k241 = 1 := y241
    obtain rfl : n241 = 12 := z241
    obtain ⟨rfl, N241q, e241⟩ := hQ241
    have N241 : Fr n0 L241 := by rw [l241]; exact Fr.app N222 N241q
    have G243 : Go p e below A0 (T241.setTop (mkF m 186 #[.val (.long q0), .second, .val (.int p1), .val (.int p2), .val (.int p3), .val (.int (p2 &&& (3 : Int32))), .val (.int (3 : Int32)), .val (.ref b126), .unset, .unset, .unset, .unset] [(.long (q0 &&& (((1 : Int64) <<< ((24 : Int32) &&& 0x3f).toInt64) - (1 : Int64))))])) := fun tq kq => G240 tq (st241 _ kq)
    have G244 : Go p e below A0 (T241.setTop (mkF m 227 #[.val (.long q0), .second, .val (.int p1), .val (.int p2), .val (.int p3), .val (.int (p2 &&& (3 : Int32))), .val (.int (3 : Int32)), .val (.ref b126), .val (.long (q0 &&& (((1 : Int64) <<< ((24 : Int32) &&& 0x3f).toInt64) - (1 : Int64)))), .second, .val (.long (q0 &&& (((1 : Int64) <<< ((24 : Int32) &&& 0x3f).toInt64) - (1 : Int64)))), .second] [(.int (1 : Int32))])) := fun tq kq => G243 tq (by
      refine XS.lstore X241.here hx rfl (hb hby at_186) rfl (l' := #[.val (.long q0), .second, .val (.int p1), .val (.int p2), .val (.int p3), .val (.int (p2 &&& (3 : Int32))), .val (.int (3 : Int32)), .val (.ref b126), .val (.long (q0 &&& (((1 : Int64) <<< ((24 : Int32) &&& 0x3f).toInt64) - (1 : Int64)))), .second, .unset, .unset]) rfl ?_
      show Steps p.tables e below (T241.setTop (mkF m 188 #[.val (.long q0), .second, .val (.int p1), .val (.int p2), .val (.int p3), .val (.int (p2 &&& (3 : Int32))), .val (.int (3 : Int32)), .val (.ref b126), .val (.long (q0 &&& (((1 : Int64) <<< ((24 : Int32) &&& 0x3f).toInt64) - (1 : Int64)))), .second, .unset, .unset] [])) _
      refine XS.iload X241.here hx rfl (hb hby at_188) rfl ?_
      show Steps p.tables e below (T241.setTop (mkF m 190 #[.val (.long q0), .second, .val (.int p1), .val (.int p2), .val (.int p3), .val (.int (p2 &&& (3 : Int32))), .val (.int (3 : Int32)), .val (.ref b126), .val (.long (q0 &&& (((1 : Int64) <<< ((24 : Int32) &&& 0x3f).toInt64) - (1 : Int64)))), .second, .unset, .unset] [(.int (3 : Int32))])) _
      refine XS.bipush X241.here hx rfl (hb hby at_190) ?_
      show Steps p.tables e below (T241.setTop (mkF m 192 #[.val (.long q0), .second, .val (.int p1), .val (.int p2), .val (.int p3), .val (.int (p2 &&& (3 : Int32))), .val (.int (3 : Int32)), .val (.ref b126), .val (.long (q0 &&& (((1 : Int64) <<< ((24 : Int32) &&& 0x3f).toInt64) - (1 : Int64)))), .second, .unset, .unset] [(.int (8 : Int32)), (.int (3 : Int32))])) _
      refine XS.icmpYes X241.here hx rfl (pc0 := 192) (pc' := 201) rfl (hb hby at_192) rfl (by decide) (by decide) (by decide) ?_
      show Steps p.tables e below (T241.setTop (mkF m 201 #[.val (.long q0), .second, .val (.int p1), .val (.int p2), .val (.int p3), .val (.int (p2 &&& (3 : Int32))), .val (.int (3 : Int32)), .val (.ref b126), .val (.long (q0 &&& (((1 : Int64) <<< ((24 : Int32) &&& 0x3f).toInt64) - (1 : Int64)))), .second, .unset, .unset] [])) _
      refine XS.lloadN X241.here hx rfl (hb hby at_201) rfl ?_
      show Steps p.tables e below (T241.setTop (mkF m 202 #[.val (.long q0), .second, .val (.int p1), .val (.int p2), .val (.int p3), .val (.int (p2 &&& (3 : Int32))), .val (.int (3 : Int32)), .val (.ref b126), .val (.long (q0 &&& (((1 : Int64) <<< ((24 : Int32) &&& 0x3f).toInt64) - (1 : Int64)))), .second, .unset, .unset] [(.long q0)])) _
      refine XS.lconst X241.here hx rfl (hb hby at_202) ?_
      show Steps p.tables e below (T241.setTop (mkF m 203 #[.val (.long q0), .second, .val (.int p1), .val (.int p2), .val (.int p3), .val (.int (p2 &&& (3 : Int32))), .val (.int (3 : Int32)), .val (.ref b126), .val (.long (q0 &&& (((1 : Int64) <<< ((24 : Int32) &&& 0x3f).toInt64) - (1 : Int64)))), .second, .unset, .unset] [(.long (1 : Int64)), (.long q0)])) _
      refine XS.bipush X241.here hx rfl (hb hby at_203) ?_
      show Steps p.tables e below (T241.setTop (mkF m 205 #[.val (.long q0), .second, .val (.int p1), .val (.int p2), .val (.int p3), .val (.int (p2 &&& (3 : Int32))), .val (.int (3 : Int32)), .val (.ref b126), .val (.long (q0 &&& (((1 : Int64) <<< ((24 : Int32) &&& 0x3f).toInt64) - (1 : Int64)))), .second, .unset, .unset] [(.int (8 : Int32)), (.long (1 : Int64)), (.long q0)])) _
      refine XS.iload X241.here hx rfl (hb hby at_205) rfl ?_
      show Steps p.tables e below (T241.setTop (mkF m 207 #[.val (.long q0), .second, .val (.int p1), .val (.int p2), .val (.int p3), .val (.int (p2 &&& (3 : Int32))), .val (.int (3 : Int32)), .val (.ref b126), .val (.long (q0 &&& (((1 : Int64) <<< ((24 : Int32) &&& 0x3f).toInt64) - (1 : Int64)))), .second, .unset, .unset] [(.int (3 : Int32)), (.int (8 : Int32)), (.long (1 : Int64)), (.long q0)])) _
      refine XS.imul X241.here hx rfl (hb hby at_207) rfl ?_
      show Steps p.tables e below (T241.setTop (mkF m 208 #[.val (.long q0), .second, .val (.int p1), .val (.int p2), .val (.int p3), .val (.int (p2 &&& (3 : Int32))), .val (.int (3 : Int32)), .val (.ref b126), .val (.long (q0 &&& (((1 : Int64) <<< ((24 : Int32) &&& 0x3f).toInt64) - (1 : Int64)))), .second, .unset, .unset] [(.int ((8 : Int32) * (3 : Int32))), (.long (1 : Int64)), (.long q0)])) _
      rw [show ((8 : Int32) * (3 : Int32)) = (24 : Int32) from (by decide : ((8 : Int32) * (3 : Int32)) = (24 : Int32))]
      show Steps p.tables e below (T241.setTop (mkF m 208 #[.val (.long q0), .second, .val (.int p1), .val (.int p2), .val (.int p3), .val (.int (p2 &&& (3 : Int32))), .val (.int (3 : Int32)), .val (.ref b126), .val (.long (q0 &&& (((1 : Int64) <<< ((24 : Int32) &&& 0x3f).toInt64) - (1 : Int64)))), .second, .unset, .unset] [(.int (24 : Int32)), (.long (1 : Int64)), (.long q0)])) _
      refine XS.lshl X241.here hx rfl (hb hby at_208) rfl ?_
      show Steps p.tables e below (T241.setTop (mkF m 209 #[.val (.long q0), .second, .val (.int p1), .val (.int p2), .val (.int p3), .val (.int (p2 &&& (3 : Int32))), .val (.int (3 : Int32)), .val (.ref b126), .val (.long (q0 &&& (((1 : Int64) <<< ((24 : Int32) &&& 0x3f).toInt64) - (1 : Int64)))), .second, .unset, .unset] [(.long ((1 : Int64) <<< ((24 : Int32) &&& 0x3f).toInt64)), (.long q0)])) _
      refine XS.lconst X241.here hx rfl (hb hby at_209) ?_
      show Steps p.tables e below (T241.setTop (mkF m 210 #[.val (.long q0), .second, .val (.int p1), .val (.int p2), .val (.int p3), .val (.int (p2 &&& (3 : Int32))), .val (.int (3 : Int32)), .val (.ref b126), .val (.long (q0 &&& (((1 : Int64) <<< ((24 : Int32) &&& 0x3f).toInt64) - (1 : Int64)))), .second, .unset, .unset] [(.long (1 : Int64)), (.long ((1 : Int64) <<< ((24 : Int32) &&& 0x3f).toInt64)), (.long q0)])) _
      refine XS.lsub X241.here hx rfl (hb hby at_210) rfl ?_
      show Steps p.tables e below (T241.setTop (mkF m 211 #[.val (.long q0), .second, .val (.int p1), .val (.int p2), .val (.int p3), .val (.int (p2 &&& (3 : Int32))), .val (.int (3 : Int32)), .val (.ref b126), .val (.long (q0 &&& (((1 : Int64) <<< ((24 : Int32) &&& 0x3f).toInt64) - (1 : Int64)))), .second, .unset, .unset] [(.long (((1 : Int64) <<< ((24 : Int32) &&& 0x3f).toInt64) - (1 : Int64))), (.long q0)])) _
      refine XS.land X241.here hx rfl (hb hby at_211) rfl ?_
      show Steps p.tables e below (T241.setTop (mkF m 212 #[.val (.long q0), .second, .val (.int p1), .val (.int p2), .val (.int p3), .val (.int (p2 &&& (3 : Int32))), .val (.int (3 : Int32)), .val (.ref b126), .val (.long (q0 &&& (((1 : Int64) <<< ((24 : Int32) &&& 0x3f).toInt64) - (1 : Int64)))), .second, .unset, .unset] [(.long (q0 &&& (((1 : Int64) <<< ((24 : Int32) &&& 0x3f).toInt64) - (1 : Int64))))])) _
      refine XS.lstore X241.here hx rfl (hb hby at_212) rfl (l' := #[.val (.long q0), .second, .val (.int p1), .val (.int p2), .val (.int p3), .val (.int (p2 &&& (3 : Int32))), .val (.int (3 : Int32)), .val (.ref b126), .val (.long (q0 &&& (((1 : Int64) <<< ((24 : Int32) &&& 0x3f).toInt64) - (1 : Int64)))), .second, .val (.long (q0 &&& (((1 : Int64) <<< ((24 : Int32) &&& 0x3f).toInt64) - (1 : Int64)))), .second]) rfl ?_
      show Steps p.tables e below (T241.setTop (mkF m 214 #[.val (.long q0), .second, .val (.int p1), .val (.int p2), .val (.int p3), .val (.int (p2 &&& (3 : Int32))), .val (.int (3 : Int32)), .val (.ref b126), .val (.long (q0 &&& (((1 : Int64) <<< ((24 : Int32) &&& 0x3f).toInt64) - (1 : Int64)))), .second, .val (.long (q0 &&& (((1 : Int64) <<< ((24 : Int32) &&& 0x3f).toInt64) - (1 : Int64)))), .second] [])) _
      refine XS.lload X241.here hx rfl (hb hby at_214) rfl ?_
      show Steps p.tables e below (T241.setTop (mkF m 216 #[.val (.long q0), .second, .val (.int p1), .val (.int p2), .val (.int p3), .val (.int (p2 &&& (3 : Int32))), .val (.int (3 : Int32)), .val (.ref b126), .val (.long (q0 &&& (((1 : Int64) <<< ((24 : Int32) &&& 0x3f).toInt64) - (1 : Int64)))), .second, .val (.long (q0 &&& (((1 : Int64) <<< ((24 : Int32) &&& 0x3f).toInt64) - (1 : Int64)))), .second] [(.long (q0 &&& (((1 : Int64) <<< ((24 : Int32) &&& 0x3f).toInt64) - (1 : Int64))))])) _
      refine XS.lload X241.here hx rfl (hb hby at_216) rfl ?_
      show Steps p.tables e below (T241.setTop (mkF m 218 #[.val (.long q0), .second, .val (.int p1), .val (.int p2), .val (.int p3), .val (.int (p2 &&& (3 : Int32))), .val (.int (3 : Int32)), .val (.ref b126), .val (.long (q0 &&& (((1 : Int64) <<< ((24 : Int32) &&& 0x3f).toInt64) - (1 : Int64)))), .second, .val (.long (q0 &&& (((1 : Int64) <<< ((24 : Int32) &&& 0x3f).toInt64) - (1 : Int64)))), .second] [(.long (q0 &&& (((1 : Int64) <<< ((24 : Int32) &&& 0x3f).toInt64) - (1 : Int64)))), (.long (q0 &&& (((1 : Int64) <<< ((24 : Int32) &&& 0x3f).toInt64) - (1 : Int64))))])) _
      refine XS.lcmp X241.here hx rfl (hb hby at_218) rfl ?_
      show Steps p.tables e below (T241.setTop (mkF m 219 #[.val (.long q0), .second, .val (.int p1), .val (.int p2), .val (.int p3), .val (.int (p2 &&& (3 : Int32))), .val (.int (3 : Int32)), .val (.ref b126), .val (.long (q0 &&& (((1 : Int64) <<< ((24 : Int32) &&& 0x3f).toInt64) - (1 : Int64)))), .second, .val (.long (q0 &&& (((1 : Int64) <<< ((24 : Int32) &&& 0x3f).toInt64) - (1 : Int64)))), .second] [(.int (lcmpW (q0 &&& (((1 : Int64) <<< ((24 : Int32) &&& 0x3f).toInt64) - (1 : Int64))) (q0 &&& (((1 : Int64) <<< ((24 : Int32) &&& 0x3f).toInt64) - (1 : Int64)))))])) _
      refine XS.ifNo X241.here hx rfl (hb hby at_219) rfl ((if0 _ _).trans (teq ((lw_eq _ _).mpr rfl)).2) ?_
      show Steps p.tables e below (T241.setTop (mkF m 222 #[.val (.long q0), .second, .val (.int p1), .val (.int p2), .val (.int p3), .val (.int (p2 &&& (3 : Int32))), .val (.int (3 : Int32)), .val (.ref b126), .val (.long (q0 &&& (((1 : Int64) <<< ((24 : Int32) &&& 0x3f).toInt64) - (1 : Int64)))), .second, .val (.long (q0 &&& (((1 : Int64) <<< ((24 : Int32) &&& 0x3f).toInt64) - (1 : Int64)))), .second] [])) _
      refine XS.iconst X241.here hx rfl (hb hby at_222) ?_
      show Steps p.tables e below (T241.setTop (mkF m 223 #[.val (.long q0), .second, .val (.int p1), .val (.int p2), .val (.int p3), .val (.int (p2 &&& (3 : Int32))), .val (.int (3 : Int32)), .val (.ref b126), .val (.long (q0 &&& (((1 : Int64) <<< ((24 : Int32) &&& 0x3f).toInt64) - (1 : Int64)))), .second, .val (.long (q0 &&& (((1 : Int64) <<< ((24 : Int32) &&& 0x3f).toInt64) - (1 : Int64)))), .second] [(.int (1 : Int32))])) _
      refine XS.goto X241.here hx rfl (pc0 := 223) (pc' := 227) rfl (hb hby at_223) (by decide) (by decide) ?_
      show Steps p.tables e below (T241.setTop (mkF m 227 #[.val (.long q0), .second, .val (.int p1), .val (.int p2), .val (.int p3), .val (.int (p2 &&& (3 : Int32))), .val (.int (3 : Int32)), .val (.ref b126), .val (.long (q0 &&& (((1 : Int64) <<< ((24 : Int32) &&& 0x3f).toInt64) - (1 : Int64)))), .second, .val (.long (q0 &&& (((1 : Int64) <<< ((24 : Int32) &&& 0x3f).toInt64) - (1 : Int64)))), .second] [(.int (1 : Int32))])) _
      exact kq)
    obtain ⟨fs, hr, hrun, hended, hW, hsame⟩ := X241.leave (v := some (.int (nar .boolean (1 : Int32)))) (fun h => by rw [Bd.returns] at h; cases h)
    refine ⟨_, _, (by rw [← hA0]; exact G244 _ (retN X241 hx (t := .boolean) Bd.returns (by simp) (hb hby at_227) hr)), hrun, hended, _, _, rfl, ?_, ⟨_, rfl⟩, hW, hsame.mono (by decide) (by decide)⟩
    exact ⟨rfl, N241⟩
  · have G245 : Go p e below A0 (T222.setTop (mkF m 183 #[.val (.long q0), .second, .val (.int p1), .val (.int p2), .val (.int p3), .val (.int (p2 &&& (3 : Int32))), .val (.int (4 : Int32)), .val (.ref b126), .unset, .unset, .unset, .unset] [(.int (4 : Int32)), (.int (p2 &&& (3 : Int32))), (.ref b126)])) := by
      have q := G224
      rw [hk] at q
      exact q
    have f247 := (Nat.le_trans f218 (Keep.of_wr W222).1)
    obtain ⟨_, _, ⟨T246, L246, k246, n246⟩, -, X246, ⟨Lc246, hQ246, l246, y246, z246⟩, st246⟩ := Jvm.LawKit.callS X222 hx (y := (⟨"com/example/ledgerline/ledgerline/format/GrowingBytes", "littleEndian", "([BII)J"⟩ : MethodName)) hown (mvT hZ (hw _ (List.mem_of_getElem? (i := 6) rfl))) (mvT hZ (hw _ (List.mem_of_getElem? (i := 7) rfl))) (mvT hZ (hw _ (List.mem_of_getElem? (i := 8) rfl))) (mvT hZ (hw _ (List.mem_of_getElem? (i := 9) rfl))) (by decide) (backOf (W := 0) (rm2_4 l Z a0 hw [] b126 (p2 &&& (3 : Int32)) q0 k126 [(.int (own_pk (0 : Int32) (p2 &&& (3 : Int32)) q0 p1)), (.int (own_pk (1 : Int32) (p2 &&& (3 : Int32)) q0 p1)), (.int (own_pk (2 : Int32) (p2 &&& (3 : Int32)) q0 p1)), (.int (own_pk (3 : Int32) (p2 &&& (3 : Int32)) q0 p1)), (.int (own_pk (4 : Int32) (p2 &&& (3 : Int32)) q0 p1)), (.int (own_pk (5 : Int32) (p2 &&& (3 : Int32)) q0 p1)), (.int (own_pk (6 : Int32) (p2 &&& (3 : Int32)) q0 p1)), (.int (own_pk (7 : Int32) (p2 &&& (3 : Int32)) q0 p1)), (.int (own_pk (8 : Int32) (p2 &&& (3 : Int32)) q0 p1)), (.int (own_pk (9 : Int32) (p2 &&& (3 : Int32)) q0 p1)), (.int (own_pk (10 : Int32) (p2 &&& (3 : Int32)) q0 p1)), (.int (own_pk (11 : Int32) (p2 &&& (3 : Int32)) q0 p1))] h222 n0 f247 V222' (own_hat (p2 &&& (3 : Int32)) q0 p1 (own_four p2))) hZ (hw _ (List.mem_of_getElem? (i := 9) rfl)) (hw _ (List.mem_of_getElem? (i := 8) rfl)) (by decide) (by decide)) (g := (mkF m 183 #[.val (.long q0), .second, .val (.int p1), .val (.int p2), .val (.int p3), .val (.int (p2 &&& (3 : Int32))), .val (.int (4 : Int32)), .val (.ref b126), .unset, .unset, .unset, .unset] [(.int (4 : Int32)), (.int (p2 &&& (3 : Int32))), (.ref b126)])) rfl (by rw [hml]; rfl) (argsL := [(.ref b126), (.int (p2 &&& (3 : Int32))), (.int (4 : Int32))]) (rest := []) (lenOf pd_1 rfl) rfl (by show 2 * 0 + _ ≤ _; exact Nat.le_of_eq rfl) (hb hby at_183) (fun _ _ => ⟨rfl, e222, (by decide : 1 + 0 ≤ _), (by decide : 12 + 0 ≤ _)⟩)
    dsimp only [Pt.U, Pt.locs, Pt.cells, Pt.slots] at X246 l246 y246 z246 st246 hQ246
    obtain rfl : k246 = 1 := y246
    obtain rfl : n246 = 12 := z246
    obtain ⟨rfl, N246q, e246⟩ := hQ246
    have N246 : Fr n0 L246 := by rw [l246]; exact Fr.app N222 N246q
    have G248 : Go p e below A0 (T246.setTop (mkF m 186 #[.val (.long q0), .second, .val (.int p1), .val (.int p2), .val (.int p3), .val (.int (p2 &&& (3 : Int32))), .val (.int (4 : Int32)), .val (.ref b126), .unset, .unset, .unset, .unset] [(.long (q0 &&& (((1 : Int64) <<< ((32 : Int32) &&& 0x3f).toInt64) - (1 : Int64))))])) := fun tq kq => G245 tq (st246 _ kq)
    have G249 : Go p e below A0 (T246.setTop (mkF m 227 #[.val (.long q0), .second, .val (.int p1), .val (.int p2), .val (.int p3), .val (.int (p2 &&& (3 : Int32))), .val (.int (4 : Int32)), .val (.ref b126), .val (.long (q0 &&& (((1 : Int64) <<< ((32 : Int32) &&& 0x3f).toInt64) - (1 : Int64)))), .second, .val (.long (q0 &&& (((1 : Int64) <<< ((32 : Int32) &&& 0x3f).toInt64) - (1 : Int64)))), .second] [(.int (1 : Int32))])) := fun tq kq => G248 tq (by
      refine XS.lstore X246.here hx rfl (hb hby at_186) rfl (l' := #[.val (.long q0), .second, .val (.int p1), .val (.int p2), .val (.int p3), .val (.int (p2 &&& (3 : Int32))), .val (.int (4 : Int32)), .val (.ref b126), .val (.long (q0 &&& (((1 : Int64) <<< ((32 : Int32) &&& 0x3f).toInt64) - (1 : Int64)))), .second, .unset, .unset]) rfl ?_
      show Steps p.tables e below (T246.setTop (mkF m 188 #[.val (.long q0), .second, .val (.int p1), .val (.int p2), .val (.int p3), .val (.int (p2 &&& (3 : Int32))), .val (.int (4 : Int32)), .val (.ref b126), .val (.long (q0 &&& (((1 : Int64) <<< ((32 : Int32) &&& 0x3f).toInt64) - (1 : Int64)))), .second, .unset, .unset] [])) _
      refine XS.iload X246.here hx rfl (hb hby at_188) rfl ?_
      show Steps p.tables e below (T246.setTop (mkF m 190 #[.val (.long q0), .second, .val (.int p1), .val (.int p2), .val (.int p3), .val (.int (p2 &&& (3 : Int32))), .val (.int (4 : Int32)), .val (.ref b126), .val (.long (q0 &&& (((1 : Int64) <<< ((32 : Int32) &&& 0x3f).toInt64) - (1 : Int64)))), .second, .unset, .unset] [(.int (4 : Int32))])) _
      refine XS.bipush X246.here hx rfl (hb hby at_190) ?_
      show Steps p.tables e below (T246.setTop (mkF m 192 #[.val (.long q0), .second, .val (.int p1), .val (.int p2), .val (.int p3), .val (.int (p2 &&& (3 : Int32))), .val (.int (4 : Int32)), .val (.ref b126), .val (.long (q0 &&& (((1 : Int64) <<< ((32 : Int32) &&& 0x3f).toInt64) - (1 : Int64)))), .second, .unset, .unset] [(.int (8 : Int32)), (.int (4 : Int32))])) _
      refine XS.icmpYes X246.here hx rfl (pc0 := 192) (pc' := 201) rfl (hb hby at_192) rfl (by decide) (by decide) (by decide) ?_
      show Steps p.tables e below (T246.setTop (mkF m 201 #[.val (.long q0), .second, .val (.int p1), .val (.int p2), .val (.int p3), .val (.int (p2 &&& (3 : Int32))), .val (.int (4 : Int32)), .val (.ref b126), .val (.long (q0 &&& (((1 : Int64) <<< ((32 : Int32) &&& 0x3f).toInt64) - (1 : Int64)))), .second, .unset, .unset] [])) _
      refine XS.lloadN X246.here hx rfl (hb hby at_201) rfl ?_
      show Steps p.tables e below (T246.setTop (mkF m 202 #[.val (.long q0), .second, .val (.int p1), .val (.int p2), .val (.int p3), .val (.int (p2 &&& (3 : Int32))), .val (.int (4 : Int32)), .val (.ref b126), .val (.long (q0 &&& (((1 : Int64) <<< ((32 : Int32) &&& 0x3f).toInt64) - (1 : Int64)))), .second, .unset, .unset] [(.long q0)])) _
      refine XS.lconst X246.here hx rfl (hb hby at_202) ?_
      show Steps p.tables e below (T246.setTop (mkF m 203 #[.val (.long q0), .second, .val (.int p1), .val (.int p2), .val (.int p3), .val (.int (p2 &&& (3 : Int32))), .val (.int (4 : Int32)), .val (.ref b126), .val (.long (q0 &&& (((1 : Int64) <<< ((32 : Int32) &&& 0x3f).toInt64) - (1 : Int64)))), .second, .unset, .unset] [(.long (1 : Int64)), (.long q0)])) _
      refine XS.bipush X246.here hx rfl (hb hby at_203) ?_
      show Steps p.tables e below (T246.setTop (mkF m 205 #[.val (.long q0), .second, .val (.int p1), .val (.int p2), .val (.int p3), .val (.int (p2 &&& (3 : Int32))), .val (.int (4 : Int32)), .val (.ref b126), .val (.long (q0 &&& (((1 : Int64) <<< ((32 : Int32) &&& 0x3f).toInt64) - (1 : Int64)))), .second, .unset, .unset] [(.int (8 : Int32)), (.long (1 : Int64)), (.long q0)])) _
      refine XS.iload X246.here hx rfl (hb hby at_205) rfl ?_
      show Steps p.tables e below (T246.setTop (mkF m 207 #[.val (.long q0), .second, .val (.int p1), .val (.int p2), .val (.int p3), .val (.int (p2 &&& (3 : Int32))), .val (.int (4 : Int32)), .val (.ref b126), .val (.long (q0 &&& (((1 : Int64) <<< ((32 : Int32) &&& 0x3f).toInt64) - (1 : Int64)))), .second, .unset, .unset] [(.int (4 : Int32)), (.int (8 : Int32)), (.long (1 : Int64)), (.long q0)])) _
      refine XS.imul X246.here hx rfl (hb hby at_207) rfl ?_
      show Steps p.tables e below (T246.setTop (mkF m 208 #[.val (.long q0), .second, .val (.int p1), .val (.int p2), .val (.int p3), .val (.int (p2 &&& (3 : Int32))), .val (.int (4 : Int32)), .val (.ref b126), .val (.long (q0 &&& (((1 : Int64) <<< ((32 : Int32) &&& 0x3f).toInt64) - (1 : Int64)))), .second, .unset, .unset] [(.int ((8 : Int32) * (4 : Int32))), (.long (1 : Int64)), (.long q0)])) _
      rw [show ((8 : Int32) * (4 : Int32)) = (32 : Int32) from (by decide : ((8 : Int32) * (4 : Int32)) = (32 : Int32))]
      show Steps p.tables e below (T246.setTop (mkF m 208 #[.val (.long q0), .second, .val (.int p1), .val (.int p2), .val (.int p3), .val (.int (p2 &&& (3 : Int32))), .val (.int (4 : Int32)), .val (.ref b126), .val (.long (q0 &&& (((1 : Int64) <<< ((32 : Int32) &&& 0x3f).toInt64) - (1 : Int64)))), .second, .unset, .unset] [(.int (32 : Int32)), (.long (1 : Int64)), (.long q0)])) _
      refine XS.lshl X246.here hx rfl (hb hby at_208) rfl ?_
      show Steps p.tables e below (T246.setTop (mkF m 209 #[.val (.long q0), .second, .val (.int p1), .val (.int p2), .val (.int p3), .val (.int (p2 &&& (3 : Int32))), .val (.int (4 : Int32)), .val (.ref b126), .val (.long (q0 &&& (((1 : Int64) <<< ((32 : Int32) &&& 0x3f).toInt64) - (1 : Int64)))), .second, .unset, .unset] [(.long ((1 : Int64) <<< ((32 : Int32) &&& 0x3f).toInt64)), (.long q0)])) _
      refine XS.lconst X246.here hx rfl (hb hby at_209) ?_
      show Steps p.tables e below (T246.setTop (mkF m 210 #[.val (.long q0), .second, .val (.int p1), .val (.int p2), .val (.int p3), .val (.int (p2 &&& (3 : Int32))), .val (.int (4 : Int32)), .val (.ref b126), .val (.long (q0 &&& (((1 : Int64) <<< ((32 : Int32) &&& 0x3f).toInt64) - (1 : Int64)))), .second, .unset, .unset] [(.long (1 : Int64)), (.long ((1 : Int64) <<< ((32 : Int32) &&& 0x3f).toInt64)), (.long q0)])) _
      refine XS.lsub X246.here hx rfl (hb hby at_210) rfl ?_
      show Steps p.tables e below (T246.setTop (mkF m 211 #[.val (.long q0), .second, .val (.int p1), .val (.int p2), .val (.int p3), .val (.int (p2 &&& (3 : Int32))), .val (.int (4 : Int32)), .val (.ref b126), .val (.long (q0 &&& (((1 : Int64) <<< ((32 : Int32) &&& 0x3f).toInt64) - (1 : Int64)))), .second, .unset, .unset] [(.long (((1 : Int64) <<< ((32 : Int32) &&& 0x3f).toInt64) - (1 : Int64))), (.long q0)])) _
      refine XS.land X246.here hx rfl (hb hby at_211) rfl ?_
      show Steps p.tables e below (T246.setTop (mkF m 212 #[.val (.long q0), .second, .val (.int p1), .val (.int p2), .val (.int p3), .val (.int (p2 &&& (3 : Int32))), .val (.int (4 : Int32)), .val (.ref b126), .val (.long (q0 &&& (((1 : Int64) <<< ((32 : Int32) &&& 0x3f).toInt64) - (1 : Int64)))), .second, .unset, .unset] [(.long (q0 &&& (((1 : Int64) <<< ((32 : Int32) &&& 0x3f).toInt64) - (1 : Int64))))])) _
      refine XS.lstore X246.here hx rfl (hb hby at_212) rfl (l' := #[.val (.long q0), .second, .val (.int p1), .val (.int p2), .val (.int p3), .val (.int (p2 &&& (3 : Int32))), .val (.int (4 : Int32)), .val (.ref b126), .val (.long (q0 &&& (((1 : Int64) <<< ((32 : Int32) &&& 0x3f).toInt64) - (1 : Int64)))), .second, .val (.long (q0 &&& (((1 : Int64) <<< ((32 : Int32) &&& 0x3f).toInt64) - (1 : Int64)))), .second]) rfl ?_
      show Steps p.tables e below (T246.setTop (mkF m 214 #[.val (.long q0), .second, .val (.int p1), .val (.int p2), .val (.int p3), .val (.int (p2 &&& (3 : Int32))), .val (.int (4 : Int32)), .val (.ref b126), .val (.long (q0 &&& (((1 : Int64) <<< ((32 : Int32) &&& 0x3f).toInt64) - (1 : Int64)))), .second, .val (.long (q0 &&& (((1 : Int64) <<< ((32 : Int32) &&& 0x3f).toInt64) - (1 : Int64)))), .second] [])) _
      refine XS.lload X246.here hx rfl (hb hby at_214) rfl ?_
      show Steps p.tables e below (T246.setTop (mkF m 216 #[.val (.long q0), .second, .val (.int p1), .val (.int p2), .val (.int p3), .val (.int (p2 &&& (3 : Int32))), .val (.int (4 : Int32)), .val (.ref b126), .val (.long (q0 &&& (((1 : Int64) <<< ((32 : Int32) &&& 0x3f).toInt64) - (1 : Int64)))), .second, .val (.long (q0 &&& (((1 : Int64) <<< ((32 : Int32) &&& 0x3f).toInt64) - (1 : Int64)))), .second] [(.long (q0 &&& (((1 : Int64) <<< ((32 : Int32) &&& 0x3f).toInt64) - (1 : Int64))))])) _
      refine XS.lload X246.here hx rfl (hb hby at_216) rfl ?_
      show Steps p.tables e below (T246.setTop (mkF m 218 #[.val (.long q0), .second, .val (.int p1), .val (.int p2), .val (.int p3), .val (.int (p2 &&& (3 : Int32))), .val (.int (4 : Int32)), .val (.ref b126), .val (.long (q0 &&& (((1 : Int64) <<< ((32 : Int32) &&& 0x3f).toInt64) - (1 : Int64)))), .second, .val (.long (q0 &&& (((1 : Int64) <<< ((32 : Int32) &&& 0x3f).toInt64) - (1 : Int64)))), .second] [(.long (q0 &&& (((1 : Int64) <<< ((32 : Int32) &&& 0x3f).toInt64) - (1 : Int64)))), (.long (q0 &&& (((1 : Int64) <<< ((32 : Int32) &&& 0x3f).toInt64) - (1 : Int64))))])) _
      refine XS.lcmp X246.here hx rfl (hb hby at_218) rfl ?_
      show Steps p.tables e below (T246.setTop (mkF m 219 #[.val (.long q0), .second, .val (.int p1), .val (.int p2), .val (.int p3), .val (.int (p2 &&& (3 : Int32))), .val (.int (4 : Int32)), .val (.ref b126), .val (.long (q0 &&& (((1 : Int64) <<< ((32 : Int32) &&& 0x3f).toInt64) - (1 : Int64)))), .second, .val (.long (q0 &&& (((1 : Int64) <<< ((32 : Int32) &&& 0x3f).toInt64) - (1 : Int64)))), .second] [(.int (lcmpW (q0 &&& (((1 : Int64) <<< ((32 : Int32) &&& 0x3f).toInt64) - (1 : Int64))) (q0 &&& (((1 : Int64) <<< ((32 : Int32) &&& 0x3f).toInt64) - (1 : Int64)))))])) _
      refine XS.ifNo X246.here hx rfl (hb hby at_219) rfl ((if0 _ _).trans (teq ((lw_eq _ _).mpr rfl)).2) ?_
      show Steps p.tables e below (T246.setTop (mkF m 222 #[.val (.long q0), .second, .val (.int p1), .val (.int p2), .val (.int p3), .val (.int (p2 &&& (3 : Int32))), .val (.int (4 : Int32)), .val (.ref b126), .val (.long (q0 &&& (((1 : Int64) <<< ((32 : Int32) &&& 0x3f).toInt64) - (1 : Int64)))), .second, .val (.long (q0 &&& (((1 : Int64) <<< ((32 : Int32) &&& 0x3f).toInt64) - (1 : Int64)))), .second] [])) _
      refine XS.iconst X246.here hx rfl (hb hby at_222) ?_
      show Steps p.tables e below (T246.setTop (mkF m 223 #[.val (.long q0), .second, .val (.int p1), .val (.int p2), .val (.int p3), .val (.int (p2 &&& (3 : Int32))), .val (.int (4 : Int32)), .val (.ref b126), .val (.long (q0 &&& (((1 : Int64) <<< ((32 : Int32) &&& 0x3f).toInt64) - (1 : Int64)))), .second, .val (.long (q0 &&& (((1 : Int64) <<< ((32 : Int32) &&& 0x3f).toInt64) - (1 : Int64)))), .second] [(.int (1 : Int32))])) _
      refine XS.goto X246.here hx rfl (pc0 := 223) (pc' := 227) rfl (hb hby at_223) (by decide) (by decide) ?_
      show Steps p.tables e below (T246.setTop (mkF m 227 #[.val (.long q0), .second, .val (.int p1), .val (.int p2), .val (.int p3), .val (.int (p2 &&& (3 : Int32))), .val (.int (4 : Int32)), .val (.ref b126), .val (.long (q0 &&& (((1 : Int64) <<< ((32 : Int32) &&& 0x3f).toInt64) - (1 : Int64)))), .second, .val (.long (q0 &&& (((1 : Int64) <<< ((32 : Int32) &&& 0x3f).toInt64) - (1 : Int64)))), .second] [(.int (1 : Int32))])) _
      exact kq)
    obtain ⟨fs, hr, hrun, hended, hW, hsame⟩ := X246.leave (v := some (.int (nar .boolean (1 : Int32)))) (fun h => by rw [Bd.returns] at h; cases h)
    refine ⟨_, _, (by rw [← hA0]; exact G249 _ (retN X246 hx (t := .boolean) Bd.returns (by simp) (hb hby at_227) hr)), hrun, hended, _, _, rfl, ?_, ⟨_, rfl⟩, hW, hsame.mono (by decide) (by decide)⟩
    exact ⟨rfl, N246⟩
  · have G250 : Go p e below A0 (T222.setTop (mkF m 183 #[.val (.long q0), .second, .val (.int p1), .val (.int p2), .val (.int p3), .val (.int (p2 &&& (3 : Int32))), .val (.int (5 : Int32)), .val (.ref b126), .unset, .unset, .unset, .unset] [(.int (5 : Int32)), (.int (p2 &&& (3 : Int32))), (.ref b126)])) := by
      have q := G224
      rw [hk] at q
      exact q
    have f252 := (Nat.le_trans f218 (Keep.of_wr W222).1)
    obtain ⟨_, _, ⟨T251, L251, k251, n251⟩, -, X251, ⟨Lc251, hQ251, l251, y251, z251⟩, st251⟩ := Jvm.LawKit.callS X222 hx (y := (⟨"com/example/ledgerline/ledgerline/format/GrowingBytes", "littleEndian", "([BII)J"⟩ : MethodName)) hown (mvT hZ (hw _ (List.mem_of_getElem? (i := 6) rfl))) (mvT hZ (hw _ (List.mem_of_getElem? (i := 7) rfl))) (mvT hZ (hw _ (List.mem_of_getElem? (i := 8) rfl))) (mvT hZ (hw _ (List.mem_of_getElem? (i := 9) rfl))) (by decide) (backOf (W := 0) (rm2_5 l Z a0 hw [] b126 (p2 &&& (3 : Int32)) q0 k126 [(.int (own_pk (0 : Int32) (p2 &&& (3 : Int32)) q0 p1)), (.int (own_pk (1 : Int32) (p2 &&& (3 : Int32)) q0 p1)), (.int (own_pk (2 : Int32) (p2 &&& (3 : Int32)) q0 p1)), (.int (own_pk (3 : Int32) (p2 &&& (3 : Int32)) q0 p1)), (.int (own_pk (4 : Int32) (p2 &&& (3 : Int32)) q0 p1)), (.int (own_pk (5 : Int32) (p2 &&& (3 : Int32)) q0 p1)), (.int (own_pk (6 : Int32) (p2 &&& (3 : Int32)) q0 p1)), (.int (own_pk (7 : Int32) (p2 &&& (3 : Int32)) q0 p1)), (.int (own_pk (8 : Int32) (p2 &&& (3 : Int32)) q0 p1)), (.int (own_pk (9 : Int32) (p2 &&& (3 : Int32)) q0 p1)), (.int (own_pk (10 : Int32) (p2 &&& (3 : Int32)) q0 p1)), (.int (own_pk (11 : Int32) (p2 &&& (3 : Int32)) q0 p1))] h222 n0 f252 V222' (own_hat (p2 &&& (3 : Int32)) q0 p1 (own_four p2))) hZ (hw _ (List.mem_of_getElem? (i := 9) rfl)) (hw _ (List.mem_of_getElem? (i := 8) rfl)) (by decide) (by decide)) (g := (mkF m 183 #[.val (.long q0), .second, .val (.int p1), .val (.int p2), .val (.int p3), .val (.int (p2 &&& (3 : Int32))), .val (.int (5 : Int32)), .val (.ref b126), .unset, .unset, .unset, .unset] [(.int (5 : Int32)), (.int (p2 &&& (3 : Int32))), (.ref b126)])) rfl (by rw [hml]; rfl) (argsL := [(.ref b126), (.int (p2 &&& (3 : Int32))), (.int (5 : Int32))]) (rest := []) (lenOf pd_1 rfl) rfl (by show 2 * 0 + _ ≤ _; exact Nat.le_of_eq rfl) (hb hby at_183) (fun _ _ => ⟨rfl, e222, (by decide : 1 + 0 ≤ _), (by decide : 12 + 0 ≤ _)⟩)
    dsimp only [Pt.U, Pt.locs, Pt.cells, Pt.slots] at X251 l251 y251 z251 st251 hQ251
    obtain rfl : k251 = 1 := y251
    obtain rfl : n251 = 12 := z251
    obtain ⟨rfl, N251q, e251⟩ := hQ251
    have N251 : Fr n0 L251 := by rw [l251]; exact Fr.app N222 N251q
    have G253 : Go p e below A0 (T251.setTop (mkF m 186 #[.val (.long q0), .second, .val (.int p1), .val (.int p2), .val (.int p3), .val (.int (p2 &&& (3 : Int32))), .val (.int (5 : Int32)), .val (.ref b126), .unset, .unset, .unset, .unset] [(.long (q0 &&& (((1 : Int64) <<< ((40 : Int32) &&& 0x3f).toInt64) - (1 : Int64))))])) := fun tq kq => G250 tq (st251 _ kq)
    have G254 : Go p e below A0 (T251.setTop (mkF m 227 #[.val (.long q0), .second, .val (.int p1), .val (.int p2), .val (.int p3), .val (.int (p2 &&& (3 : Int32))), .val (.int (5 : Int32)), .val (.ref b126), .val (.long (q0 &&& (((1 : Int64) <<< ((40 : Int32) &&& 0x3f).toInt64) - (1 : Int64)))), .second, .val (.long (q0 &&& (((1 : Int64) <<< ((40 : Int32) &&& 0x3f).toInt64) - (1 : Int64)))), .second] [(.int (1 : Int32))])) := fun tq kq => G253 tq (by
      refine XS.lstore X251.here hx rfl (hb hby at_186) rfl (l' := #[.val (.long q0), .second, .val (.int p1), .val (.int p2), .val (.int p3), .val (.int (p2 &&& (3 : Int32))), .val (.int (5 : Int32)), .val (.ref b126), .val (.long (q0 &&& (((1 : Int64) <<< ((40 : Int32) &&& 0x3f).toInt64) - (1 : Int64)))), .second, .unset, .unset]) rfl ?_
      show Steps p.tables e below (T251.setTop (mkF m 188 #[.val (.long q0), .second, .val (.int p1), .val (.int p2), .val (.int p3), .val (.int (p2 &&& (3 : Int32))), .val (.int (5 : Int32)), .val (.ref b126), .val (.long (q0 &&& (((1 : Int64) <<< ((40 : Int32) &&& 0x3f).toInt64) - (1 : Int64)))), .second, .unset, .unset] [])) _
      refine XS.iload X251.here hx rfl (hb hby at_188) rfl ?_
      show Steps p.tables e below (T251.setTop (mkF m 190 #[.val (.long q0), .second, .val (.int p1), .val (.int p2), .val (.int p3), .val (.int (p2 &&& (3 : Int32))), .val (.int (5 : Int32)), .val (.ref b126), .val (.long (q0 &&& (((1 : Int64) <<< ((40 : Int32) &&& 0x3f).toInt64) - (1 : Int64)))), .second, .unset, .unset] [(.int (5 : Int32))])) _
      refine XS.bipush X251.here hx rfl (hb hby at_190) ?_
      show Steps p.tables e below (T251.setTop (mkF m 192 #[.val (.long q0), .second, .val (.int p1), .val (.int p2), .val (.int p3), .val (.int (p2 &&& (3 : Int32))), .val (.int (5 : Int32)), .val (.ref b126), .val (.long (q0 &&& (((1 : Int64) <<< ((40 : Int32) &&& 0x3f).toInt64) - (1 : Int64)))), .second, .unset, .unset] [(.int (8 : Int32)), (.int (5 : Int32))])) _
      refine XS.icmpYes X251.here hx rfl (pc0 := 192) (pc' := 201) rfl (hb hby at_192) rfl (by decide) (by decide) (by decide) ?_
      show Steps p.tables e below (T251.setTop (mkF m 201 #[.val (.long q0), .second, .val (.int p1), .val (.int p2), .val (.int p3), .val (.int (p2 &&& (3 : Int32))), .val (.int (5 : Int32)), .val (.ref b126), .val (.long (q0 &&& (((1 : Int64) <<< ((40 : Int32) &&& 0x3f).toInt64) - (1 : Int64)))), .second, .unset, .unset] [])) _
      refine XS.lloadN X251.here hx rfl (hb hby at_201) rfl ?_
      show Steps p.tables e below (T251.setTop (mkF m 202 #[.val (.long q0), .second, .val (.int p1), .val (.int p2), .val (.int p3), .val (.int (p2 &&& (3 : Int32))), .val (.int (5 : Int32)), .val (.ref b126), .val (.long (q0 &&& (((1 : Int64) <<< ((40 : Int32) &&& 0x3f).toInt64) - (1 : Int64)))), .second, .unset, .unset] [(.long q0)])) _
      refine XS.lconst X251.here hx rfl (hb hby at_202) ?_
      show Steps p.tables e below (T251.setTop (mkF m 203 #[.val (.long q0), .second, .val (.int p1), .val (.int p2), .val (.int p3), .val (.int (p2 &&& (3 : Int32))), .val (.int (5 : Int32)), .val (.ref b126), .val (.long (q0 &&& (((1 : Int64) <<< ((40 : Int32) &&& 0x3f).toInt64) - (1 : Int64)))), .second, .unset, .unset] [(.long (1 : Int64)), (.long q0)])) _
      refine XS.bipush X251.here hx rfl (hb hby at_203) ?_
      show Steps p.tables e below (T251.setTop (mkF m 205 #[.val (.long q0), .second, .val (.int p1), .val (.int p2), .val (.int p3), .val (.int (p2 &&& (3 : Int32))), .val (.int (5 : Int32)), .val (.ref b126), .val (.long (q0 &&& (((1 : Int64) <<< ((40 : Int32) &&& 0x3f).toInt64) - (1 : Int64)))), .second, .unset, .unset] [(.int (8 : Int32)), (.long (1 : Int64)), (.long q0)])) _
      refine XS.iload X251.here hx rfl (hb hby at_205) rfl ?_
      show Steps p.tables e below (T251.setTop (mkF m 207 #[.val (.long q0), .second, .val (.int p1), .val (.int p2), .val (.int p3), .val (.int (p2 &&& (3 : Int32))), .val (.int (5 : Int32)), .val (.ref b126), .val (.long (q0 &&& (((1 : Int64) <<< ((40 : Int32) &&& 0x3f).toInt64) - (1 : Int64)))), .second, .unset, .unset] [(.int (5 : Int32)), (.int (8 : Int32)), (.long (1 : Int64)), (.long q0)])) _
      refine XS.imul X251.here hx rfl (hb hby at_207) rfl ?_
      show Steps p.tables e below (T251.setTop (mkF m 208 #[.val (.long q0), .second, .val (.int p1), .val (.int p2), .val (.int p3), .val (.int (p2 &&& (3 : Int32))), .val (.int (5 : Int32)), .val (.ref b126), .val (.long (q0 &&& (((1 : Int64) <<< ((40 : Int32) &&& 0x3f).toInt64) - (1 : Int64)))), .second, .unset, .unset] [(.int ((8 : Int32) * (5 : Int32))), (.long (1 : Int64)), (.long q0)])) _
      rw [show ((8 : Int32) * (5 : Int32)) = (40 : Int32) from (by decide : ((8 : Int32) * (5 : Int32)) = (40 : Int32))]
      show Steps p.tables e below (T251.setTop (mkF m 208 #[.val (.long q0), .second, .val (.int p1), .val (.int p2), .val (.int p3), .val (.int (p2 &&& (3 : Int32))), .val (.int (5 : Int32)), .val (.ref b126), .val (.long (q0 &&& (((1 : Int64) <<< ((40 : Int32) &&& 0x3f).toInt64) - (1 : Int64)))), .second, .unset, .unset] [(.int (40 : Int32)), (.long (1 : Int64)), (.long q0)])) _
      refine XS.lshl X251.here hx rfl (hb hby at_208) rfl ?_
      show Steps p.tables e below (T251.setTop (mkF m 209 #[.val (.long q0), .second, .val (.int p1), .val (.int p2), .val (.int p3), .val (.int (p2 &&& (3 : Int32))), .val (.int (5 : Int32)), .val (.ref b126), .val (.long (q0 &&& (((1 : Int64) <<< ((40 : Int32) &&& 0x3f).toInt64) - (1 : Int64)))), .second, .unset, .unset] [(.long ((1 : Int64) <<< ((40 : Int32) &&& 0x3f).toInt64)), (.long q0)])) _
      refine XS.lconst X251.here hx rfl (hb hby at_209) ?_
      show Steps p.tables e below (T251.setTop (mkF m 210 #[.val (.long q0), .second, .val (.int p1), .val (.int p2), .val (.int p3), .val (.int (p2 &&& (3 : Int32))), .val (.int (5 : Int32)), .val (.ref b126), .val (.long (q0 &&& (((1 : Int64) <<< ((40 : Int32) &&& 0x3f).toInt64) - (1 : Int64)))), .second, .unset, .unset] [(.long (1 : Int64)), (.long ((1 : Int64) <<< ((40 : Int32) &&& 0x3f).toInt64)), (.long q0)])) _
      refine XS.lsub X251.here hx rfl (hb hby at_210) rfl ?_
      show Steps p.tables e below (T251.setTop (mkF m 211 #[.val (.long q0), .second, .val (.int p1), .val (.int p2), .val (.int p3), .val (.int (p2 &&& (3 : Int32))), .val (.int (5 : Int32)), .val (.ref b126), .val (.long (q0 &&& (((1 : Int64) <<< ((40 : Int32) &&& 0x3f).toInt64) - (1 : Int64)))), .second, .unset, .unset] [(.long (((1 : Int64) <<< ((40 : Int32) &&& 0x3f).toInt64) - (1 : Int64))), (.long q0)])) _
      refine XS.land X251.here hx rfl (hb hby at_211) rfl ?_
      show Steps p.tables e below (T251.setTop (mkF m 212 #[.val (.long q0), .second, .val (.int p1), .val (.int p2), .val (.int p3), .val (.int (p2 &&& (3 : Int32))), .val (.int (5 : Int32)), .val (.ref b126), .val (.long (q0 &&& (((1 : Int64) <<< ((40 : Int32) &&& 0x3f).toInt64) - (1 : Int64)))), .second, .unset, .unset] [(.long (q0 &&& (((1 : Int64) <<< ((40 : Int32) &&& 0x3f).toInt64) - (1 : Int64))))])) _
      refine XS.lstore X251.here hx rfl (hb hby at_212) rfl (l' := #[.val (.long q0), .second, .val (.int p1), .val (.int p2), .val (.int p3), .val (.int (p2 &&& (3 : Int32))), .val (.int (5 : Int32)), .val (.ref b126), .val (.long (q0 &&& (((1 : Int64) <<< ((40 : Int32) &&& 0x3f).toInt64) - (1 : Int64)))), .second, .val (.long (q0 &&& (((1 : Int64) <<< ((40 : Int32) &&& 0x3f).toInt64) - (1 : Int64)))), .second]) rfl ?_
      show Steps p.tables e below (T251.setTop (mkF m 214 #[.val (.long q0), .second, .val (.int p1), .val (.int p2), .val (.int p3), .val (.int (p2 &&& (3 : Int32))), .val (.int (5 : Int32)), .val (.ref b126), .val (.long (q0 &&& (((1 : Int64) <<< ((40 : Int32) &&& 0x3f).toInt64) - (1 : Int64)))), .second, .val (.long (q0 &&& (((1 : Int64) <<< ((40 : Int32) &&& 0x3f).toInt64) - (1 : Int64)))), .second] [])) _
      refine XS.lload X251.here hx rfl (hb hby at_214) rfl ?_
      show Steps p.tables e below (T251.setTop (mkF m 216 #[.val (.long q0), .second, .val (.int p1), .val (.int p2), .val (.int p3), .val (.int (p2 &&& (3 : Int32))), .val (.int (5 : Int32)), .val (.ref b126), .val (.long (q0 &&& (((1 : Int64) <<< ((40 : Int32) &&& 0x3f).toInt64) - (1 : Int64)))), .second, .val (.long (q0 &&& (((1 : Int64) <<< ((40 : Int32) &&& 0x3f).toInt64) - (1 : Int64)))), .second] [(.long (q0 &&& (((1 : Int64) <<< ((40 : Int32) &&& 0x3f).toInt64) - (1 : Int64))))])) _
      refine XS.lload X251.here hx rfl (hb hby at_216) rfl ?_
      show Steps p.tables e below (T251.setTop (mkF m 218 #[.val (.long q0), .second, .val (.int p1), .val (.int p2), .val (.int p3), .val (.int (p2 &&& (3 : Int32))), .val (.int (5 : Int32)), .val (.ref b126), .val (.long (q0 &&& (((1 : Int64) <<< ((40 : Int32) &&& 0x3f).toInt64) - (1 : Int64)))), .second, .val (.long (q0 &&& (((1 : Int64) <<< ((40 : Int32) &&& 0x3f).toInt64) - (1 : Int64)))), .second] [(.long (q0 &&& (((1 : Int64) <<< ((40 : Int32) &&& 0x3f).toInt64) - (1 : Int64)))), (.long (q0 &&& (((1 : Int64) <<< ((40 : Int32) &&& 0x3f).toInt64) - (1 : Int64))))])) _
      refine XS.lcmp X251.here hx rfl (hb hby at_218) rfl ?_
      show Steps p.tables e below (T251.setTop (mkF m 219 #[.val (.long q0), .second, .val (.int p1), .val (.int p2), .val (.int p3), .val (.int (p2 &&& (3 : Int32))), .val (.int (5 : Int32)), .val (.ref b126), .val (.long (q0 &&& (((1 : Int64) <<< ((40 : Int32) &&& 0x3f).toInt64) - (1 : Int64)))), .second, .val (.long (q0 &&& (((1 : Int64) <<< ((40 : Int32) &&& 0x3f).toInt64) - (1 : Int64)))), .second] [(.int (lcmpW (q0 &&& (((1 : Int64) <<< ((40 : Int32) &&& 0x3f).toInt64) - (1 : Int64))) (q0 &&& (((1 : Int64) <<< ((40 : Int32) &&& 0x3f).toInt64) - (1 : Int64)))))])) _
      refine XS.ifNo X251.here hx rfl (hb hby at_219) rfl ((if0 _ _).trans (teq ((lw_eq _ _).mpr rfl)).2) ?_
      show Steps p.tables e below (T251.setTop (mkF m 222 #[.val (.long q0), .second, .val (.int p1), .val (.int p2), .val (.int p3), .val (.int (p2 &&& (3 : Int32))), .val (.int (5 : Int32)), .val (.ref b126), .val (.long (q0 &&& (((1 : Int64) <<< ((40 : Int32) &&& 0x3f).toInt64) - (1 : Int64)))), .second, .val (.long (q0 &&& (((1 : Int64) <<< ((40 : Int32) &&& 0x3f).toInt64) - (1 : Int64)))), .second] [])) _
      refine XS.iconst X251.here hx rfl (hb hby at_222) ?_
      show Steps p.tables e below (T251.setTop (mkF m 223 #[.val (.long q0), .second, .val (.int p1), .val (.int p2), .val (.int p3), .val (.int (p2 &&& (3 : Int32))), .val (.int (5 : Int32)), .val (.ref b126), .val (.long (q0 &&& (((1 : Int64) <<< ((40 : Int32) &&& 0x3f).toInt64) - (1 : Int64)))), .second, .val (.long (q0 &&& (((1 : Int64) <<< ((40 : Int32) &&& 0x3f).toInt64) - (1 : Int64)))), .second] [(.int (1 : Int32))])) _
      refine XS.goto X251.here hx rfl (pc0 := 223) (pc' := 227) rfl (hb hby at_223) (by decide) (by decide) ?_
      show Steps p.tables e below (T251.setTop (mkF m 227 #[.val (.long q0), .second, .val (.int p1), .val (.int p2), .val (.int p3), .val (.int (p2 &&& (3 : Int32))), .val (.int (5 : Int32)), .val (.ref b126), .val (.long (q0 &&& (((1 : Int64) <<< ((40 : Int32) &&& 0x3f).toInt64) - (1 : Int64)))), .second, .val (.long (q0 &&& (((1 : Int64) <<< ((40 : Int32) &&& 0x3f).toInt64) - (1 : Int64)))), .second] [(.int (1 : Int32))])) _
      exact kq)
    obtain ⟨fs, hr, hrun, hended, hW, hsame⟩ := X251.leave (v := some (.int (nar .boolean (1 : Int32)))) (fun h => by rw [Bd.returns] at h; cases h)
    refine ⟨_, _, (by rw [← hA0]; exact G254 _ (retN X251 hx (t := .boolean) Bd.returns (by simp) (hb hby at_227) hr)), hrun, hended, _, _, rfl, ?_, ⟨_, rfl⟩, hW, hsame.mono (by decide) (by decide)⟩
    exact ⟨rfl, N251⟩
  · have G255 : Go p e below A0 (T222.setTop (mkF m 183 #[.val (.long q0), .second, .val (.int p1), .val (.int p2), .val (.int p3), .val (.int (p2 &&& (3 : Int32))), .val (.int (6 : Int32)), .val (.ref b126), .unset, .unset, .unset, .unset] [(.int (6 : Int32)), (.int (p2 &&& (3 : Int32))), (.ref b126)])) := by
      have q := G224
      rw [hk] at q
      exact q
    have f257 := (Nat.le_trans f218 (Keep.of_wr W222).1)
    obtain ⟨_, _, ⟨T256, L256, k256, n256⟩, -, X256, ⟨Lc256, hQ256, l256, y256, z256⟩, st256⟩ := Jvm.LawKit.callS X222 hx (y := (⟨"com/example/ledgerline/ledgerline/format/GrowingBytes", "littleEndian", "([BII)J"⟩ : MethodName)) hown (mvT hZ (hw _ (List.mem_of_getElem? (i := 6) rfl))) (mvT hZ (hw _ (List.mem_of_getElem? (i := 7) rfl))) (mvT hZ (hw _ (List.mem_of_getElem? (i := 8) rfl))) (mvT hZ (hw _ (List.mem_of_getElem? (i := 9) rfl))) (by decide) (backOf (W := 0) (rm2_6 l Z a0 hw [] b126 (p2 &&& (3 : Int32)) q0 k126 [(.int (own_pk (0 : Int32) (p2 &&& (3 : Int32)) q0 p1)), (.int (own_pk (1 : Int32) (p2 &&& (3 : Int32)) q0 p1)), (.int (own_pk (2 : Int32) (p2 &&& (3 : Int32)) q0 p1)), (.int (own_pk (3 : Int32) (p2 &&& (3 : Int32)) q0 p1)), (.int (own_pk (4 : Int32) (p2 &&& (3 : Int32)) q0 p1)), (.int (own_pk (5 : Int32) (p2 &&& (3 : Int32)) q0 p1)), (.int (own_pk (6 : Int32) (p2 &&& (3 : Int32)) q0 p1)), (.int (own_pk (7 : Int32) (p2 &&& (3 : Int32)) q0 p1)), (.int (own_pk (8 : Int32) (p2 &&& (3 : Int32)) q0 p1)), (.int (own_pk (9 : Int32) (p2 &&& (3 : Int32)) q0 p1)), (.int (own_pk (10 : Int32) (p2 &&& (3 : Int32)) q0 p1)), (.int (own_pk (11 : Int32) (p2 &&& (3 : Int32)) q0 p1))] h222 n0 f257 V222' (own_hat (p2 &&& (3 : Int32)) q0 p1 (own_four p2))) hZ (hw _ (List.mem_of_getElem? (i := 9) rfl)) (hw _ (List.mem_of_getElem? (i := 8) rfl)) (by decide) (by decide)) (g := (mkF m 183 #[.val (.long q0), .second, .val (.int p1), .val (.int p2), .val (.int p3), .val (.int (p2 &&& (3 : Int32))), .val (.int (6 : Int32)), .val (.ref b126), .unset, .unset, .unset, .unset] [(.int (6 : Int32)), (.int (p2 &&& (3 : Int32))), (.ref b126)])) rfl (by rw [hml]; rfl) (argsL := [(.ref b126), (.int (p2 &&& (3 : Int32))), (.int (6 : Int32))]) (rest := []) (lenOf pd_1 rfl) rfl (by show 2 * 0 + _ ≤ _; exact Nat.le_of_eq rfl) (hb hby at_183) (fun _ _ => ⟨rfl, e222, (by decide : 1 + 0 ≤ _), (by decide : 12 + 0 ≤ _)⟩)
    dsimp only [Pt.U, Pt.locs, Pt.cells, Pt.slots] at X256 l256 y256 z256 st256 hQ256
    obtain rfl : k256 = 1 := y256
    obtain rfl : n256 = 12 := z256
    obtain ⟨rfl, N256q, e256⟩ := hQ256
    have N256 : Fr n0 L256 := by rw [l256]; exact Fr.app N222 N256q
    have G258 : Go p e below A0 (T256.setTop (mkF m 186 #[.val (.long q0), .second, .val (.int p1), .val (.int p2), .val (.int p3), .val (.int (p2 &&& (3 : Int32))), .val (.int (6 : Int32)), .val (.ref b126), .unset, .unset, .unset, .unset] [(.long (q0 &&& (((1 : Int64) <<< ((48 : Int32) &&& 0x3f).toInt64) - (1 : Int64))))])) := fun tq kq => G255 tq (st256 _ kq)
    have G259 : Go p e below A0 (T256.setTop (mkF m 227 #[.val (.long q0), .second, .val (.int p1), .val (.int p2), .val (.int p3), .val (.int (p2 &&& (3 : Int32))), .val (.int (6 : Int32)), .val (.ref b126), .val (.long (q0 &&& (((1 : Int64) <<< ((48 : Int32) &&& 0x3f).toInt64) - (1 : Int64)))), .second, .val (.long (q0 &&& (((1 : Int64) <<< ((48 : Int32) &&& 0x3f).toInt64) - (1 : Int64)))), .second] [(.int (1 : Int32))])) := fun tq kq => G258 tq (by
      refine XS.lstore X256.here hx rfl (hb hby at_186) rfl (l' := #[.val (.long q0), .second, .val (.int p1), .val (.int p2), .val (.int p3), .val (.int (p2 &&& (3 : Int32))), .val (.int (6 : Int32)), .val (.ref b126), .val (.long (q0 &&& (((1 : Int64) <<< ((48 : Int32) &&& 0x3f).toInt64) - (1 : Int64)))), .second, .unset, .unset]) rfl ?_
      show Steps p.tables e below (T256.setTop (mkF m 188 #[.val (.long q0), .second, .val (.int p1), .val (.int p2), .val (.int p3), .val (.int (p2 &&& (3 : Int32))), .val (.int (6 : Int32)), .val (.ref b126), .val (.long (q0 &&& (((1 : Int64) <<< ((48 : Int32) &&& 0x3f).toInt64) - (1 : Int64)))), .second, .unset, .unset] [])) _
      refine XS.iload X256.here hx rfl (hb hby at_188) rfl ?_
      show Steps p.tables e below (T256.setTop (mkF m 190 #[.val (.long q0), .second, .val (.int p1), .val (.int p2), .val (.int p3), .val (.int (p2 &&& (3 : Int32))), .val (.int (6 : Int32)), .val (.ref b126), .val (.long (q0 &&& (((1 : Int64) <<< ((48 : Int32) &&& 0x3f).toInt64) - (1 : Int64)))), .second, .unset, .unset] [(.int (6 : Int32))])) _
      refine XS.bipush X256.here hx rfl (hb hby at_190) ?_
      show Steps p.tables e below (T256.setTop (mkF m 192 #[.val (.long q0), .second, .val (.int p1), .val (.int p2), .val (.int p3), .val (.int (p2 &&& (3 : Int32))), .val (.int (6 : Int32)), .val (.ref b126), .val (.long (q0 &&& (((1 : Int64) <<< ((48 : Int32) &&& 0x3f).toInt64) - (1 : Int64)))), .second, .unset, .unset] [(.int (8 : Int32)), (.int (6 : Int32))])) _
      refine XS.icmpYes X256.here hx rfl (pc0 := 192) (pc' := 201) rfl (hb hby at_192) rfl (by decide) (by decide) (by decide) ?_
      show Steps p.tables e below (T256.setTop (mkF m 201 #[.val (.long q0), .second, .val (.int p1), .val (.int p2), .val (.int p3), .val (.int (p2 &&& (3 : Int32))), .val (.int (6 : Int32)), .val (.ref b126), .val (.long (q0 &&& (((1 : Int64) <<< ((48 : Int32) &&& 0x3f).toInt64) - (1 : Int64)))), .second, .unset, .unset] [])) _
      refine XS.lloadN X256.here hx rfl (hb hby at_201) rfl ?_
      show Steps p.tables e below (T256.setTop (mkF m 202 #[.val (.long q0), .second, .val (.int p1), .val (.int p2), .val (.int p3), .val (.int (p2 &&& (3 : Int32))), .val (.int (6 : Int32)), .val (.ref b126), .val (.long (q0 &&& (((1 : Int64) <<< ((48 : Int32) &&& 0x3f).toInt64) - (1 : Int64)))), .second, .unset, .unset] [(.long q0)])) _
      refine XS.lconst X256.here hx rfl (hb hby at_202) ?_
      show Steps p.tables e below (T256.setTop (mkF m 203 #[.val (.long q0), .second, .val (.int p1), .val (.int p2), .val (.int p3), .val (.int (p2 &&& (3 : Int32))), .val (.int (6 : Int32)), .val (.ref b126), .val (.long (q0 &&& (((1 : Int64) <<< ((48 : Int32) &&& 0x3f).toInt64) - (1 : Int64)))), .second, .unset, .unset] [(.long (1 : Int64)), (.long q0)])) _
      refine XS.bipush X256.here hx rfl (hb hby at_203) ?_
      show Steps p.tables e below (T256.setTop (mkF m 205 #[.val (.long q0), .second, .val (.int p1), .val (.int p2), .val (.int p3), .val (.int (p2 &&& (3 : Int32))), .val (.int (6 : Int32)), .val (.ref b126), .val (.long (q0 &&& (((1 : Int64) <<< ((48 : Int32) &&& 0x3f).toInt64) - (1 : Int64)))), .second, .unset, .unset] [(.int (8 : Int32)), (.long (1 : Int64)), (.long q0)])) _
      refine XS.iload X256.here hx rfl (hb hby at_205) rfl ?_
      show Steps p.tables e below (T256.setTop (mkF m 207 #[.val (.long q0), .second, .val (.int p1), .val (.int p2), .val (.int p3), .val (.int (p2 &&& (3 : Int32))), .val (.int (6 : Int32)), .val (.ref b126), .val (.long (q0 &&& (((1 : Int64) <<< ((48 : Int32) &&& 0x3f).toInt64) - (1 : Int64)))), .second, .unset, .unset] [(.int (6 : Int32)), (.int (8 : Int32)), (.long (1 : Int64)), (.long q0)])) _
      refine XS.imul X256.here hx rfl (hb hby at_207) rfl ?_
      show Steps p.tables e below (T256.setTop (mkF m 208 #[.val (.long q0), .second, .val (.int p1), .val (.int p2), .val (.int p3), .val (.int (p2 &&& (3 : Int32))), .val (.int (6 : Int32)), .val (.ref b126), .val (.long (q0 &&& (((1 : Int64) <<< ((48 : Int32) &&& 0x3f).toInt64) - (1 : Int64)))), .second, .unset, .unset] [(.int ((8 : Int32) * (6 : Int32))), (.long (1 : Int64)), (.long q0)])) _
      rw [show ((8 : Int32) * (6 : Int32)) = (48 : Int32) from (by decide : ((8 : Int32) * (6 : Int32)) = (48 : Int32))]
      show Steps p.tables e below (T256.setTop (mkF m 208 #[.val (.long q0), .second, .val (.int p1), .val (.int p2), .val (.int p3), .val (.int (p2 &&& (3 : Int32))), .val (.int (6 : Int32)), .val (.ref b126), .val (.long (q0 &&& (((1 : Int64) <<< ((48 : Int32) &&& 0x3f).toInt64) - (1 : Int64)))), .second, .unset, .unset] [(.int (48 : Int32)), (.long (1 : Int64)), (.long q0)])) _
      refine XS.lshl X256.here hx rfl (hb hby at_208) rfl ?_
      show Steps p.tables e below (T256.setTop (mkF m 209 #[.val (.long q0), .second, .val (.int p1), .val (.int p2), .val (.int p3), .val (.int (p2 &&& (3 : Int32))), .val (.int (6 : Int32)), .val (.ref b126), .val (.long (q0 &&& (((1 : Int64) <<< ((48 : Int32) &&& 0x3f).toInt64) - (1 : Int64)))), .second, .unset, .unset] [(.long ((1 : Int64) <<< ((48 : Int32) &&& 0x3f).toInt64)), (.long q0)])) _
      refine XS.lconst X256.here hx rfl (hb hby at_209) ?_
      show Steps p.tables e below (T256.setTop (mkF m 210 #[.val (.long q0), .second, .val (.int p1), .val (.int p2), .val (.int p3), .val (.int (p2 &&& (3 : Int32))), .val (.int (6 : Int32)), .val (.ref b126), .val (.long (q0 &&& (((1 : Int64) <<< ((48 : Int32) &&& 0x3f).toInt64) - (1 : Int64)))), .second, .unset, .unset] [(.long (1 : Int64)), (.long ((1 : Int64) <<< ((48 : Int32) &&& 0x3f).toInt64)), (.long q0)])) _
      refine XS.lsub X256.here hx rfl (hb hby at_210) rfl ?_
      show Steps p.tables e below (T256.setTop (mkF m 211 #[.val (.long q0), .second, .val (.int p1), .val (.int p2), .val (.int p3), .val (.int (p2 &&& (3 : Int32))), .val (.int (6 : Int32)), .val (.ref b126), .val (.long (q0 &&& (((1 : Int64) <<< ((48 : Int32) &&& 0x3f).toInt64) - (1 : Int64)))), .second, .unset, .unset] [(.long (((1 : Int64) <<< ((48 : Int32) &&& 0x3f).toInt64) - (1 : Int64))), (.long q0)])) _
      refine XS.land X256.here hx rfl (hb hby at_211) rfl ?_
      show Steps p.tables e below (T256.setTop (mkF m 212 #[.val (.long q0), .second, .val (.int p1), .val (.int p2), .val (.int p3), .val (.int (p2 &&& (3 : Int32))), .val (.int (6 : Int32)), .val (.ref b126), .val (.long (q0 &&& (((1 : Int64) <<< ((48 : Int32) &&& 0x3f).toInt64) - (1 : Int64)))), .second, .unset, .unset] [(.long (q0 &&& (((1 : Int64) <<< ((48 : Int32) &&& 0x3f).toInt64) - (1 : Int64))))])) _
      refine XS.lstore X256.here hx rfl (hb hby at_212) rfl (l' := #[.val (.long q0), .second, .val (.int p1), .val (.int p2), .val (.int p3), .val (.int (p2 &&& (3 : Int32))), .val (.int (6 : Int32)), .val (.ref b126), .val (.long (q0 &&& (((1 : Int64) <<< ((48 : Int32) &&& 0x3f).toInt64) - (1 : Int64)))), .second, .val (.long (q0 &&& (((1 : Int64) <<< ((48 : Int32) &&& 0x3f).toInt64) - (1 : Int64)))), .second]) rfl ?_
      show Steps p.tables e below (T256.setTop (mkF m 214 #[.val (.long q0), .second, .val (.int p1), .val (.int p2), .val (.int p3), .val (.int (p2 &&& (3 : Int32))), .val (.int (6 : Int32)), .val (.ref b126), .val (.long (q0 &&& (((1 : Int64) <<< ((48 : Int32) &&& 0x3f).toInt64) - (1 : Int64)))), .second, .val (.long (q0 &&& (((1 : Int64) <<< ((48 : Int32) &&& 0x3f).toInt64) - (1 : Int64)))), .second] [])) _
      refine XS.lload X256.here hx rfl (hb hby at_214) rfl ?_
      show Steps p.tables e below (T256.setTop (mkF m 216 #[.val (.long q0), .second, .val (.int p1), .val (.int p2), .val (.int p3), .val (.int (p2 &&& (3 : Int32))), .val (.int (6 : Int32)), .val (.ref b126), .val (.long (q0 &&& (((1 : Int64) <<< ((48 : Int32) &&& 0x3f).toInt64) - (1 : Int64)))), .second, .val (.long (q0 &&& (((1 : Int64) <<< ((48 : Int32) &&& 0x3f).toInt64) - (1 : Int64)))), .second] [(.long (q0 &&& (((1 : Int64) <<< ((48 : Int32) &&& 0x3f).toInt64) - (1 : Int64))))])) _
      refine XS.lload X256.here hx rfl (hb hby at_216) rfl ?_
      show Steps p.tables e below (T256.setTop (mkF m 218 #[.val (.long q0), .second, .val (.int p1), .val (.int p2), .val (.int p3), .val (.int (p2 &&& (3 : Int32))), .val (.int (6 : Int32)), .val (.ref b126), .val (.long (q0 &&& (((1 : Int64) <<< ((48 : Int32) &&& 0x3f).toInt64) - (1 : Int64)))), .second, .val (.long (q0 &&& (((1 : Int64) <<< ((48 : Int32) &&& 0x3f).toInt64) - (1 : Int64)))), .second] [(.long (q0 &&& (((1 : Int64) <<< ((48 : Int32) &&& 0x3f).toInt64) - (1 : Int64)))), (.long (q0 &&& (((1 : Int64) <<< ((48 : Int32) &&& 0x3f).toInt64) - (1 : Int64))))])) _
      refine XS.lcmp X256.here hx rfl (hb hby at_218) rfl ?_
      show Steps p.tables e below (T256.setTop (mkF m 219 #[.val (.long q0), .second, .val (.int p1), .val (.int p2), .val (.int p3), .val (.int (p2 &&& (3 : Int32))), .val (.int (6 : Int32)), .val (.ref b126), .val (.long (q0 &&& (((1 : Int64) <<< ((48 : Int32) &&& 0x3f).toInt64) - (1 : Int64)))), .second, .val (.long (q0 &&& (((1 : Int64) <<< ((48 : Int32) &&& 0x3f).toInt64) - (1 : Int64)))), .second] [(.int (lcmpW (q0 &&& (((1 : Int64) <<< ((48 : Int32) &&& 0x3f).toInt64) - (1 : Int64))) (q0 &&& (((1 : Int64) <<< ((48 : Int32) &&& 0x3f).toInt64) - (1 : Int64)))))])) _
      refine XS.ifNo X256.here hx rfl (hb hby at_219) rfl ((if0 _ _).trans (teq ((lw_eq _ _).mpr rfl)).2) ?_
      show Steps p.tables e below (T256.setTop (mkF m 222 #[.val (.long q0), .second, .val (.int p1), .val (.int p2), .val (.int p3), .val (.int (p2 &&& (3 : Int32))), .val (.int (6 : Int32)), .val (.ref b126), .val (.long (q0 &&& (((1 : Int64) <<< ((48 : Int32) &&& 0x3f).toInt64) - (1 : Int64)))), .second, .val (.long (q0 &&& (((1 : Int64) <<< ((48 : Int32) &&& 0x3f).toInt64) - (1 : Int64)))), .second] [])) _
      refine XS.iconst X256.here hx rfl (hb hby at_222) ?_
      show Steps p.tables e below (T256.setTop (mkF m 223 #[.val (.long q0), .second, .val (.int p1), .val (.int p2), .val (.int p3), .val (.int (p2 &&& (3 : Int32))), .val (.int (6 : Int32)), .val (.ref b126), .val (.long (q0 &&& (((1 : Int64) <<< ((48 : Int32) &&& 0x3f).toInt64) - (1 : Int64)))), .second, .val (.long (q0 &&& (((1 : Int64) <<< ((48 : Int32) &&& 0x3f).toInt64) - (1 : Int64)))), .second] [(.int (1 : Int32))])) _
      refine XS.goto X256.here hx rfl (pc0 := 223) (pc' := 227) rfl (hb hby at_223) (by decide) (by decide) ?_
      show Steps p.tables e below (T256.setTop (mkF m 227 #[.val (.long q0), .second, .val (.int p1), .val (.int p2), .val (.int p3), .val (.int (p2 &&& (3 : Int32))), .val (.int (6 : Int32)), .val (.ref b126), .val (.long (q0 &&& (((1 : Int64) <<< ((48 : Int32) &&& 0x3f).toInt64) - (1 : Int64)))), .second, .val (.long (q0 &&& (((1 : Int64) <<< ((48 : Int32) &&& 0x3f).toInt64) - (1 : Int64)))), .second] [(.int (1 : Int32))])) _
      exact kq)
    obtain ⟨fs, hr, hrun, hended, hW, hsame⟩ := X256.leave (v := some (.int (nar .boolean (1 : Int32)))) (fun h => by rw [Bd.returns] at h; cases h)
    refine ⟨_, _, (by rw [← hA0]; exact G259 _ (retN X256 hx (t := .boolean) Bd.returns (by simp) (hb hby at_227) hr)), hrun, hended, _, _, rfl, ?_, ⟨_, rfl⟩, hW, hsame.mono (by decide) (by decide)⟩
    exact ⟨rfl, N256⟩
  · have G260 : Go p e below A0 (T222.setTop (mkF m 183 #[.val (.long q0), .second, .val (.int p1), .val (.int p2), .val (.int p3), .val (.int (p2 &&& (3 : Int32))), .val (.int (7 : Int32)), .val (.ref b126), .unset, .unset, .unset, .unset] [(.int (7 : Int32)), (.int (p2 &&& (3 : Int32))), (.ref b126)])) := by
      have q := G224
      rw [hk] at q
      exact q
    have f262 := (Nat.le_trans f218 (Keep.of_wr W222).1)
    obtain ⟨_, _, ⟨T261, L261, k261, n261⟩, -, X261, ⟨Lc261, hQ261, l261, y261, z261⟩, st261⟩ := Jvm.LawKit.callS X222 hx (y := (⟨"com/example/ledgerline/ledgerline/format/GrowingBytes", "littleEndian", "([BII)J"⟩ : MethodName)) hown (mvT hZ (hw _ (List.mem_of_getElem? (i := 6) rfl))) (mvT hZ (hw _ (List.mem_of_getElem? (i := 7) rfl))) (mvT hZ (hw _ (List.mem_of_getElem? (i := 8) rfl))) (mvT hZ (hw _ (List.mem_of_getElem? (i := 9) rfl))) (by decide) (backOf (W := 0) (rm2_7 l Z a0 hw [] b126 (p2 &&& (3 : Int32)) q0 k126 [(.int (own_pk (0 : Int32) (p2 &&& (3 : Int32)) q0 p1)), (.int (own_pk (1 : Int32) (p2 &&& (3 : Int32)) q0 p1)), (.int (own_pk (2 : Int32) (p2 &&& (3 : Int32)) q0 p1)), (.int (own_pk (3 : Int32) (p2 &&& (3 : Int32)) q0 p1)), (.int (own_pk (4 : Int32) (p2 &&& (3 : Int32)) q0 p1)), (.int (own_pk (5 : Int32) (p2 &&& (3 : Int32)) q0 p1)), (.int (own_pk (6 : Int32) (p2 &&& (3 : Int32)) q0 p1)), (.int (own_pk (7 : Int32) (p2 &&& (3 : Int32)) q0 p1)), (.int (own_pk (8 : Int32) (p2 &&& (3 : Int32)) q0 p1)), (.int (own_pk (9 : Int32) (p2 &&& (3 : Int32)) q0 p1)), (.int (own_pk (10 : Int32) (p2 &&& (3 : Int32)) q0 p1)), (.int (own_pk (11 : Int32) (p2 &&& (3 : Int32)) q0 p1))] h222 n0 f262 V222' (own_hat (p2 &&& (3 : Int32)) q0 p1 (own_four p2))) hZ (hw _ (List.mem_of_getElem? (i := 9) rfl)) (hw _ (List.mem_of_getElem? (i := 8) rfl)) (by decide) (by decide)) (g := (mkF m 183 #[.val (.long q0), .second, .val (.int p1), .val (.int p2), .val (.int p3), .val (.int (p2 &&& (3 : Int32))), .val (.int (7 : Int32)), .val (.ref b126), .unset, .unset, .unset, .unset] [(.int (7 : Int32)), (.int (p2 &&& (3 : Int32))), (.ref b126)])) rfl (by rw [hml]; rfl) (argsL := [(.ref b126), (.int (p2 &&& (3 : Int32))), (.int (7 : Int32))]) (rest := []) (lenOf pd_1 rfl) rfl (by show 2 * 0 + _ ≤ _; exact Nat.le_of_eq rfl) (hb hby at_183) (fun _ _ => ⟨rfl, e222, (by decide : 1 + 0 ≤ _), (by decide : 12 + 0 ≤ _)⟩)
    dsimp only [Pt.U, Pt.locs, Pt.cells, Pt.slots] at X261 l261 y261 z261 st261 hQ261
    obtain rfl : k261 = 1 := y261
    obtain rfl : n261 = 12 := z261
    obtain ⟨rfl, N261q, e261⟩ := hQ261
    have N261 : Fr n0 L261 := by rw [l261]; exact Fr.app N222 N261q
    have G263 : Go p e below A0 (T261.setTop (mkF m 186 #[.val (.long q0), .second, .val (.int p1), .val (.int p2), .val (.int p3), .val (.int (p2 &&& (3 : Int32))), .val (.int (7 : Int32)), .val (.ref b126), .unset, .unset, .unset, .unset] [(.long (q0 &&& (((1 : Int64) <<< ((56 : Int32) &&& 0x3f).toInt64) - (1 : Int64))))])) := fun tq kq => G260 tq (st261 _ kq)
    have G264 : Go p e below A0 (T261.setTop (mkF m 227 #[.val (.long q0), .second, .val (.int p1), .val (.int p2), .val (.int p3), .val (.int (p2 &&& (3 : Int32))), .val (.int (7 : Int32)), .val (.ref b126), .val (.long (q0 &&& (((1 : Int64) <<< ((56 : Int32) &&& 0x3f).toInt64) - (1 : Int64)))), .second, .val (.long (q0 &&& (((1 : Int64) <<< ((56 : Int32) &&& 0x3f).toInt64) - (1 : Int64)))), .second] [(.int (1 : Int32))])) := fun tq kq => G263 tq (by
      refine XS.lstore X261.here hx rfl (hb hby at_186) rfl (l' := #[.val (.long q0), .second, .val (.int p1), .val (.int p2), .val (.int p3), .val (.int (p2 &&& (3 : Int32))), .val (.int (7 : Int32)), .val (.ref b126), .val (.long (q0 &&& (((1 : Int64) <<< ((56 : Int32) &&& 0x3f).toInt64) - (1 : Int64)))), .second, .unset, .unset]) rfl ?_
      show Steps p.tables e below (T261.setTop (mkF m 188 #[.val (.long q0), .second, .val (.int p1), .val (.int p2), .val (.int p3), .val (.int (p2 &&& (3 : Int32))), .val (.int (7 : Int32)), .val (.ref b126), .val (.long (q0 &&& (((1 : Int64) <<< ((56 : Int32) &&& 0x3f).toInt64) - (1 : Int64)))), .second, .unset, .unset] [])) _
      refine XS.iload X261.here hx rfl (hb hby at_188) rfl ?_
      show Steps p.tables e below (T261.setTop (mkF m 190 #[.val (.long q0), .second, .val (.int p1), .val (.int p2), .val (.int p3), .val (.int (p2 &&& (3 : Int32))), .val (.int (7 : Int32)), .val (.ref b126), .val (.long (q0 &&& (((1 : Int64) <<< ((56 : Int32) &&& 0x3f).toInt64) - (1 : Int64)))), .second, .unset, .unset] [(.int (7 : Int32))])) _
      refine XS.bipush X261.here hx rfl (hb hby at_190) ?_
      show Steps p.tables e below (T261.setTop (mkF m 192 #[.val (.long q0), .second, .val (.int p1), .val (.int p2), .val (.int p3), .val (.int (p2 &&& (3 : Int32))), .val (.int (7 : Int32)), .val (.ref b126), .val (.long (q0 &&& (((1 : Int64) <<< ((56 : Int32) &&& 0x3f).toInt64) - (1 : Int64)))), .second, .unset, .unset] [(.int (8 : Int32)), (.int (7 : Int32))])) _
      refine XS.icmpYes X261.here hx rfl (pc0 := 192) (pc' := 201) rfl (hb hby at_192) rfl (by decide) (by decide) (by decide) ?_
      show Steps p.tables e below (T261.setTop (mkF m 201 #[.val (.long q0), .second, .val (.int p1), .val (.int p2), .val (.int p3), .val (.int (p2 &&& (3 : Int32))), .val (.int (7 : Int32)), .val (.ref b126), .val (.long (q0 &&& (((1 : Int64) <<< ((56 : Int32) &&& 0x3f).toInt64) - (1 : Int64)))), .second, .unset, .unset] [])) _
      refine XS.lloadN X261.here hx rfl (hb hby at_201) rfl ?_
      show Steps p.tables e below (T261.setTop (mkF m 202 #[.val (.long q0), .second, .val (.int p1), .val (.int p2), .val (.int p3), .val (.int (p2 &&& (3 : Int32))), .val (.int (7 : Int32)), .val (.ref b126), .val (.long (q0 &&& (((1 : Int64) <<< ((56 : Int32) &&& 0x3f).toInt64) - (1 : Int64)))), .second, .unset, .unset] [(.long q0)])) _
      refine XS.lconst X261.here hx rfl (hb hby at_202) ?_
      show Steps p.tables e below (T261.setTop (mkF m 203 #[.val (.long q0), .second, .val (.int p1), .val (.int p2), .val (.int p3), .val (.int (p2 &&& (3 : Int32))), .val (.int (7 : Int32)), .val (.ref b126), .val (.long (q0 &&& (((1 : Int64) <<< ((56 : Int32) &&& 0x3f).toInt64) - (1 : Int64)))), .second, .unset, .unset] [(.long (1 : Int64)), (.long q0)])) _
      refine XS.bipush X261.here hx rfl (hb hby at_203) ?_
      show Steps p.tables e below (T261.setTop (mkF m 205 #[.val (.long q0), .second, .val (.int p1), .val (.int p2), .val (.int p3), .val (.int (p2 &&& (3 : Int32))), .val (.int (7 : Int32)), .val (.ref b126), .val (.long (q0 &&& (((1 : Int64) <<< ((56 : Int32) &&& 0x3f).toInt64) - (1 : Int64)))), .second, .unset, .unset] [(.int (8 : Int32)), (.long (1 : Int64)), (.long q0)])) _
      refine XS.iload X261.here hx rfl (hb hby at_205) rfl ?_
      show Steps p.tables e below (T261.setTop (mkF m 207 #[.val (.long q0), .second, .val (.int p1), .val (.int p2), .val (.int p3), .val (.int (p2 &&& (3 : Int32))), .val (.int (7 : Int32)), .val (.ref b126), .val (.long (q0 &&& (((1 : Int64) <<< ((56 : Int32) &&& 0x3f).toInt64) - (1 : Int64)))), .second, .unset, .unset] [(.int (7 : Int32)), (.int (8 : Int32)), (.long (1 : Int64)), (.long q0)])) _
      refine XS.imul X261.here hx rfl (hb hby at_207) rfl ?_
      show Steps p.tables e below (T261.setTop (mkF m 208 #[.val (.long q0), .second, .val (.int p1), .val (.int p2), .val (.int p3), .val (.int (p2 &&& (3 : Int32))), .val (.int (7 : Int32)), .val (.ref b126), .val (.long (q0 &&& (((1 : Int64) <<< ((56 : Int32) &&& 0x3f).toInt64) - (1 : Int64)))), .second, .unset, .unset] [(.int ((8 : Int32) * (7 : Int32))), (.long (1 : Int64)), (.long q0)])) _
      rw [show ((8 : Int32) * (7 : Int32)) = (56 : Int32) from (by decide : ((8 : Int32) * (7 : Int32)) = (56 : Int32))]
      show Steps p.tables e below (T261.setTop (mkF m 208 #[.val (.long q0), .second, .val (.int p1), .val (.int p2), .val (.int p3), .val (.int (p2 &&& (3 : Int32))), .val (.int (7 : Int32)), .val (.ref b126), .val (.long (q0 &&& (((1 : Int64) <<< ((56 : Int32) &&& 0x3f).toInt64) - (1 : Int64)))), .second, .unset, .unset] [(.int (56 : Int32)), (.long (1 : Int64)), (.long q0)])) _
      refine XS.lshl X261.here hx rfl (hb hby at_208) rfl ?_
      show Steps p.tables e below (T261.setTop (mkF m 209 #[.val (.long q0), .second, .val (.int p1), .val (.int p2), .val (.int p3), .val (.int (p2 &&& (3 : Int32))), .val (.int (7 : Int32)), .val (.ref b126), .val (.long (q0 &&& (((1 : Int64) <<< ((56 : Int32) &&& 0x3f).toInt64) - (1 : Int64)))), .second, .unset, .unset] [(.long ((1 : Int64) <<< ((56 : Int32) &&& 0x3f).toInt64)), (.long q0)])) _
      refine XS.lconst X261.here hx rfl (hb hby at_209) ?_
      show Steps p.tables e below (T261.setTop (mkF m 210 #[.val (.long q0), .second, .val (.int p1), .val (.int p2), .val (.int p3), .val (.int (p2 &&& (3 : Int32))), .val (.int (7 : Int32)), .val (.ref b126), .val (.long (q0 &&& (((1 : Int64) <<< ((56 : Int32) &&& 0x3f).toInt64) - (1 : Int64)))), .second, .unset, .unset] [(.long (1 : Int64)), (.long ((1 : Int64) <<< ((56 : Int32) &&& 0x3f).toInt64)), (.long q0)])) _
      refine XS.lsub X261.here hx rfl (hb hby at_210) rfl ?_
      show Steps p.tables e below (T261.setTop (mkF m 211 #[.val (.long q0), .second, .val (.int p1), .val (.int p2), .val (.int p3), .val (.int (p2 &&& (3 : Int32))), .val (.int (7 : Int32)), .val (.ref b126), .val (.long (q0 &&& (((1 : Int64) <<< ((56 : Int32) &&& 0x3f).toInt64) - (1 : Int64)))), .second, .unset, .unset] [(.long (((1 : Int64) <<< ((56 : Int32) &&& 0x3f).toInt64) - (1 : Int64))), (.long q0)])) _
      refine XS.land X261.here hx rfl (hb hby at_211) rfl ?_
      show Steps p.tables e below (T261.setTop (mkF m 212 #[.val (.long q0), .second, .val (.int p1), .val (.int p2), .val (.int p3), .val (.int (p2 &&& (3 : Int32))), .val (.int (7 : Int32)), .val (.ref b126), .val (.long (q0 &&& (((1 : Int64) <<< ((56 : Int32) &&& 0x3f).toInt64) - (1 : Int64)))), .second, .unset, .unset] [(.long (q0 &&& (((1 : Int64) <<< ((56 : Int32) &&& 0x3f).toInt64) - (1 : Int64))))])) _
      refine XS.lstore X261.here hx rfl (hb hby at_212) rfl (l' := #[.val (.long q0), .second, .val (.int p1), .val (.int p2), .val (.int p3), .val (.int (p2 &&& (3 : Int32))), .val (.int (7 : Int32)), .val (.ref b126), .val (.long (q0 &&& (((1 : Int64) <<< ((56 : Int32) &&& 0x3f).toInt64) - (1 : Int64)))), .second, .val (.long (q0 &&& (((1 : Int64) <<< ((56 : Int32) &&& 0x3f).toInt64) - (1 : Int64)))), .second]) rfl ?_
      show Steps p.tables e below (T261.setTop (mkF m 214 #[.val (.long q0), .second, .val (.int p1), .val (.int p2), .val (.int p3), .val (.int (p2 &&& (3 : Int32))), .val (.int (7 : Int32)), .val (.ref b126), .val (.long (q0 &&& (((1 : Int64) <<< ((56 : Int32) &&& 0x3f).toInt64) - (1 : Int64)))), .second, .val (.long (q0 &&& (((1 : Int64) <<< ((56 : Int32) &&& 0x3f).toInt64) - (1 : Int64)))), .second] [])) _
      refine XS.lload X261.here hx rfl (hb hby at_214) rfl ?_
      show Steps p.tables e below (T261.setTop (mkF m 216 #[.val (.long q0), .second, .val (.int p1), .val (.int p2), .val (.int p3), .val (.int (p2 &&& (3 : Int32))), .val (.int (7 : Int32)), .val (.ref b126), .val (.long (q0 &&& (((1 : Int64) <<< ((56 : Int32) &&& 0x3f).toInt64) - (1 : Int64)))), .second, .val (.long (q0 &&& (((1 : Int64) <<< ((56 : Int32) &&& 0x3f).toInt64) - (1 : Int64)))), .second] [(.long (q0 &&& (((1 : Int64) <<< ((56 : Int32) &&& 0x3f).toInt64) - (1 : Int64))))])) _
      refine XS.lload X261.here hx rfl (hb hby at_216) rfl ?_
      show Steps p.tables e below (T261.setTop (mkF m 218 #[.val (.long q0), .second, .val (.int p1), .val (.int p2), .val (.int p3), .val (.int (p2 &&& (3 : Int32))), .val (.int (7 : Int32)), .val (.ref b126), .val (.long (q0 &&& (((1 : Int64) <<< ((56 : Int32) &&& 0x3f).toInt64) - (1 : Int64)))), .second, .val (.long (q0 &&& (((1 : Int64) <<< ((56 : Int32) &&& 0x3f).toInt64) - (1 : Int64)))), .second] [(.long (q0 &&& (((1 : Int64) <<< ((56 : Int32) &&& 0x3f).toInt64) - (1 : Int64)))), (.long (q0 &&& (((1 : Int64) <<< ((56 : Int32) &&& 0x3f).toInt64) - (1 : Int64))))])) _
      refine XS.lcmp X261.here hx rfl (hb hby at_218) rfl ?_
      show Steps p.tables e below (T261.setTop (mkF m 219 #[.val (.long q0), .second, .val (.int p1), .val (.int p2), .val (.int p3), .val (.int (p2 &&& (3 : Int32))), .val (.int (7 : Int32)), .val (.ref b126), .val (.long (q0 &&& (((1 : Int64) <<< ((56 : Int32) &&& 0x3f).toInt64) - (1 : Int64)))), .second, .val (.long (q0 &&& (((1 : Int64) <<< ((56 : Int32) &&& 0x3f).toInt64) - (1 : Int64)))), .second] [(.int (lcmpW (q0 &&& (((1 : Int64) <<< ((56 : Int32) &&& 0x3f).toInt64) - (1 : Int64))) (q0 &&& (((1 : Int64) <<< ((56 : Int32) &&& 0x3f).toInt64) - (1 : Int64)))))])) _
      refine XS.ifNo X261.here hx rfl (hb hby at_219) rfl ((if0 _ _).trans (teq ((lw_eq _ _).mpr rfl)).2) ?_
      show Steps p.tables e below (T261.setTop (mkF m 222 #[.val (.long q0), .second, .val (.int p1), .val (.int p2), .val (.int p3), .val (.int (p2 &&& (3 : Int32))), .val (.int (7 : Int32)), .val (.ref b126), .val (.long (q0 &&& (((1 : Int64) <<< ((56 : Int32) &&& 0x3f).toInt64) - (1 : Int64)))), .second, .val (.long (q0 &&& (((1 : Int64) <<< ((56 : Int32) &&& 0x3f).toInt64) - (1 : Int64)))), .second] [])) _
      refine XS.iconst X261.here hx rfl (hb hby at_222) ?_
      show Steps p.tables e below (T261.setTop (mkF m 223 #[.val (.long q0), .second, .val (.int p1), .val (.int p2), .val (.int p3), .val (.int (p2 &&& (3 : Int32))), .val (.int (7 : Int32)), .val (.ref b126), .val (.long (q0 &&& (((1 : Int64) <<< ((56 : Int32) &&& 0x3f).toInt64) - (1 : Int64)))), .second, .val (.long (q0 &&& (((1 : Int64) <<< ((56 : Int32) &&& 0x3f).toInt64) - (1 : Int64)))), .second] [(.int (1 : Int32))])) _
      refine XS.goto X261.here hx rfl (pc0 := 223) (pc' := 227) rfl (hb hby at_223) (by decide) (by decide) ?_
      show Steps p.tables e below (T261.setTop (mkF m 227 #[.val (.long q0), .second, .val (.int p1), .val (.int p2), .val (.int p3), .val (.int (p2 &&& (3 : Int32))), .val (.int (7 : Int32)), .val (.ref b126), .val (.long (q0 &&& (((1 : Int64) <<< ((56 : Int32) &&& 0x3f).toInt64) - (1 : Int64)))), .second, .val (.long (q0 &&& (((1 : Int64) <<< ((56 : Int32) &&& 0x3f).toInt64) - (1 : Int64)))), .second] [(.int (1 : Int32))])) _
      exact kq)
    obtain ⟨fs, hr, hrun, hended, hW, hsame⟩ := X261.leave (v := some (.int (nar .boolean (1 : Int32)))) (fun h => by rw [Bd.returns] at h; cases h)
    refine ⟨_, _, (by rw [← hA0]; exact G264 _ (retN X261 hx (t := .boolean) Bd.returns (by simp) (hb hby at_227) hr)), hrun, hended, _, _, rfl, ?_, ⟨_, rfl⟩, hW, hsame.mono (by decide) (by decide)⟩
    exact ⟨rfl, N261⟩
  · have G265 : Go p e below A0 (T222.setTop (mkF m 183 #[.val (.long q0), .second, .val (.int p1), .val (.int p2), .val (.int p3), .val (.int (p2 &&& (3 : Int32))), .val (.int (8 : Int32)), .val (.ref b126), .unset, .unset, .unset, .unset] [(.int (8 : Int32)), (.int (p2 &&& (3 : Int32))), (.ref b126)])) := by
      have q := G224
      rw [hk] at q
      exact q
    have f267 := (Nat.le_trans f218 (Keep.of_wr W222).1)
    obtain ⟨_, _, ⟨T266, L266, k266, n266⟩, -, X266, ⟨Lc266, hQ266, l266, y266, z266⟩, st266⟩ := Jvm.LawKit.callS X222 hx (y := (⟨"com/example/ledgerline/ledgerline/format/GrowingBytes", "littleEndian", "([BII)J"⟩ : MethodName)) hown (mvT hZ (hw _ (List.mem_of_getElem? (i := 6) rfl))) (mvT hZ (hw _ (List.mem_of_getElem? (i := 7) rfl))) (mvT hZ (hw _ (List.mem_of_getElem? (i := 8) rfl))) (mvT hZ (hw _ (List.mem_of_getElem? (i := 9) rfl))) (by decide) (backOf (W := 0) (rm2_8 l Z a0 hw [] b126 (p2 &&& (3 : Int32)) q0 k126 [(.int (own_pk (0 : Int32) (p2 &&& (3 : Int32)) q0 p1)), (.int (own_pk (1 : Int32) (p2 &&& (3 : Int32)) q0 p1)), (.int (own_pk (2 : Int32) (p2 &&& (3 : Int32)) q0 p1)), (.int (own_pk (3 : Int32) (p2 &&& (3 : Int32)) q0 p1)), (.int (own_pk (4 : Int32) (p2 &&& (3 : Int32)) q0 p1)), (.int (own_pk (5 : Int32) (p2 &&& (3 : Int32)) q0 p1)), (.int (own_pk (6 : Int32) (p2 &&& (3 : Int32)) q0 p1)), (.int (own_pk (7 : Int32) (p2 &&& (3 : Int32)) q0 p1)), (.int (own_pk (8 : Int32) (p2 &&& (3 : Int32)) q0 p1)), (.int (own_pk (9 : Int32) (p2 &&& (3 : Int32)) q0 p1)), (.int (own_pk (10 : Int32) (p2 &&& (3 : Int32)) q0 p1)), (.int (own_pk (11 : Int32) (p2 &&& (3 : Int32)) q0 p1))] h222 n0 f267 V222' (own_hat (p2 &&& (3 : Int32)) q0 p1 (own_four p2))) hZ (hw _ (List.mem_of_getElem? (i := 9) rfl)) (hw _ (List.mem_of_getElem? (i := 8) rfl)) (by decide) (by decide)) (g := (mkF m 183 #[.val (.long q0), .second, .val (.int p1), .val (.int p2), .val (.int p3), .val (.int (p2 &&& (3 : Int32))), .val (.int (8 : Int32)), .val (.ref b126), .unset, .unset, .unset, .unset] [(.int (8 : Int32)), (.int (p2 &&& (3 : Int32))), (.ref b126)])) rfl (by rw [hml]; rfl) (argsL := [(.ref b126), (.int (p2 &&& (3 : Int32))), (.int (8 : Int32))]) (rest := []) (lenOf pd_1 rfl) rfl (by show 2 * 0 + _ ≤ _; exact Nat.le_of_eq rfl) (hb hby at_183) (fun _ _ => ⟨rfl, e222, (by decide : 1 + 0 ≤ _), (by decide : 12 + 0 ≤ _)⟩)
    dsimp only [Pt.U, Pt.locs, Pt.cells, Pt.slots] at X266 l266 y266 z266 st266 hQ266
    obtain rfl : k266 = 1 := y266
    obtain rfl : n266 = 12 := z266
    obtain ⟨rfl, N266q, e266⟩ := hQ266
    have N266 : Fr n0 L266 := by rw [l266]; exact Fr.app N222 N266q
    have G268 : Go p e below A0 (T266.setTop (mkF m 186 #[.val (.long q0), .second, .val (.int p1), .val (.int p2), .val (.int p3), .val (.int (p2 &&& (3 : Int32))), .val (.int (8 : Int32)), .val (.ref b126), .unset, .unset, .unset, .unset] [(.long q0)])) := fun tq kq => G265 tq (st266 _ kq)
    have G269 : Go p e below A0 (T266.setTop (mkF m 227 #[.val (.long q0), .second, .val (.int p1), .val (.int p2), .val (.int p3), .val (.int (p2 &&& (3 : Int32))), .val (.int (8 : Int32)), .val (.ref b126), .val (.long q0), .second, .val (.long q0), .second] [(.int (1 : Int32))])) := fun tq kq => G268 tq (by
      refine XS.lstore X266.here hx rfl (hb hby at_186) rfl (l' := #[.val (.long q0), .second, .val (.int p1), .val (.int p2), .val (.int p3), .val (.int (p2 &&& (3 : Int32))), .val (.int (8 : Int32)), .val (.ref b126), .val (.long q0), .second, .unset, .unset]) rfl ?_
      show Steps p.tables e below (T266.setTop (mkF m 188 #[.val (.long q0), .second, .val (.int p1), .val (.int p2), .val (.int p3), .val (.int (p2 &&& (3 : Int32))), .val (.int (8 : Int32)), .val (.ref b126), .val (.long q0), .second, .unset, .unset] [])) _
      refine XS.iload X266.here hx rfl (hb hby at_188) rfl ?_
      show Steps p.tables e below (T266.setTop (mkF m 190 #[.val (.long q0), .second, .val (.int p1), .val (.int p2), .val (.int p3), .val (.int (p2 &&& (3 : Int32))), .val (.int (8 : Int32)), .val (.ref b126), .val (.long q0), .second, .unset, .unset] [(.int (8 : Int32))])) _
      refine XS.bipush X266.here hx rfl (hb hby at_190) ?_
      show Steps p.tables e below (T266.setTop (mkF m 192 #[.val (.long q0), .second, .val (.int p1), .val (.int p2), .val (.int p3), .val (.int (p2 &&& (3 : Int32))), .val (.int (8 : Int32)), .val (.ref b126), .val (.long q0), .second, .unset, .unset] [(.int (8 : Int32)), (.int (8 : Int32))])) _
      refine XS.icmpNo X266.here hx rfl (hb hby at_192) rfl (by decide) ?_
      show Steps p.tables e below (T266.setTop (mkF m 195 #[.val (.long q0), .second, .val (.int p1), .val (.int p2), .val (.int p3), .val (.int (p2 &&& (3 : Int32))), .val (.int (8 : Int32)), .val (.ref b126), .val (.long q0), .second, .unset, .unset] [])) _
      refine XS.lloadN X266.here hx rfl (hb hby at_195) rfl ?_
      show Steps p.tables e below (T266.setTop (mkF m 196 #[.val (.long q0), .second, .val (.int p1), .val (.int p2), .val (.int p3), .val (.int (p2 &&& (3 : Int32))), .val (.int (8 : Int32)), .val (.ref b126), .val (.long q0), .second, .unset, .unset] [(.long q0)])) _
      refine XS.lstore X266.here hx rfl (hb hby at_196) rfl (l' := #[.val (.long q0), .second, .val (.int p1), .val (.int p2), .val (.int p3), .val (.int (p2 &&& (3 : Int32))), .val (.int (8 : Int32)), .val (.ref b126), .val (.long q0), .second, .val (.long q0), .second]) rfl ?_
      show Steps p.tables e below (T266.setTop (mkF m 198 #[.val (.long q0), .second, .val (.int p1), .val (.int p2), .val (.int p3), .val (.int (p2 &&& (3 : Int32))), .val (.int (8 : Int32)), .val (.ref b126), .val (.long q0), .second, .val (.long q0), .second] [])) _
      refine XS.goto X266.here hx rfl (pc0 := 198) (pc' := 214) rfl (hb hby at_198) (by decide) (by decide) ?_
      show Steps p.tables e below (T266.setTop (mkF m 214 #[.val (.long q0), .second, .val (.int p1), .val (.int p2), .val (.int p3), .val (.int (p2 &&& (3 : Int32))), .val (.int (8 : Int32)), .val (.ref b126), .val (.long q0), .second, .val (.long q0), .second] [])) _
      refine XS.lload X266.here hx rfl (hb hby at_214) rfl ?_
      show Steps p.tables e below (T266.setTop (mkF m 216 #[.val (.long q0), .second, .val (.int p1), .val (.int p2), .val (.int p3), .val (.int (p2 &&& (3 : Int32))), .val (.int (8 : Int32)), .val (.ref b126), .val (.long q0), .second, .val (.long q0), .second] [(.long q0)])) _
      refine XS.lload X266.here hx rfl (hb hby at_216) rfl ?_
      show Steps p.tables e below (T266.setTop (mkF m 218 #[.val (.long q0), .second, .val (.int p1), .val (.int p2), .val (.int p3), .val (.int (p2 &&& (3 : Int32))), .val (.int (8 : Int32)), .val (.ref b126), .val (.long q0), .second, .val (.long q0), .second] [(.long q0), (.long q0)])) _
      refine XS.lcmp X266.here hx rfl (hb hby at_218) rfl ?_
      show Steps p.tables e below (T266.setTop (mkF m 219 #[.val (.long q0), .second, .val (.int p1), .val (.int p2), .val (.int p3), .val (.int (p2 &&& (3 : Int32))), .val (.int (8 : Int32)), .val (.ref b126), .val (.long q0), .second, .val (.long q0), .second] [(.int (lcmpW q0 q0))])) _
      refine XS.ifNo X266.here hx rfl (hb hby at_219) rfl ((if0 _ _).trans (teq ((lw_eq _ _).mpr rfl)).2) ?_
      show Steps p.tables e below (T266.setTop (mkF m 222 #[.val (.long q0), .second, .val (.int p1), .val (.int p2), .val (.int p3), .val (.int (p2 &&& (3 : Int32))), .val (.int (8 : Int32)), .val (.ref b126), .val (.long q0), .second, .val (.long q0), .second] [])) _
      refine XS.iconst X266.here hx rfl (hb hby at_222) ?_
      show Steps p.tables e below (T266.setTop (mkF m 223 #[.val (.long q0), .second, .val (.int p1), .val (.int p2), .val (.int p3), .val (.int (p2 &&& (3 : Int32))), .val (.int (8 : Int32)), .val (.ref b126), .val (.long q0), .second, .val (.long q0), .second] [(.int (1 : Int32))])) _
      refine XS.goto X266.here hx rfl (pc0 := 223) (pc' := 227) rfl (hb hby at_223) (by decide) (by decide) ?_
      show Steps p.tables e below (T266.setTop (mkF m 227 #[.val (.long q0), .second, .val (.int p1), .val (.int p2), .val (.int p3), .val (.int (p2 &&& (3 : Int32))), .val (.int (8 : Int32)), .val (.ref b126), .val (.long q0), .second, .val (.long q0), .second] [(.int (1 : Int32))])) _
      exact kq)
    obtain ⟨fs, hr, hrun, hended, hW, hsame⟩ := X266.leave (v := some (.int (nar .boolean (1 : Int32)))) (fun h => by rw [Bd.returns] at h; cases h)
    refine ⟨_, _, (by rw [← hA0]; exact G269 _ (retN X266 hx (t := .boolean) Bd.returns (by simp) (hb hby at_227) hr)), hrun, hended, _, _, rfl, ?_, ⟨_, rfl⟩, hW, hsame.mono (by decide) (by decide)⟩
    exact ⟨rfl, N266⟩
set_option maxRecDepth 65536 in
set_option maxHeartbeats 40000000 in
theorem comes_1 {Post : Tables → Env → Array Value → State → Outcome → State → Prop} (hpost : ∀ tb e args s v u, (limb_1_1.after args s (.returned v) u = true ∧ limb_1_2.after args s (.returned v) u = true ∧ True) → FrameEnd s (.returned v) u (Jvm.fieldLocs frame_1_writes args s ++ Jvm.arrayLocs frame_1_arrays args s ++ Jvm.staticLocs frame_1_statics s) 16 128 → Post tb e args s (.returned v) u) :
    ArmFor flags0 classFile x code maxLocals ret World_1 tables_1 room_1 Calls_1 rest_1 Pre_1 Post := by
  intro l hfl _ _ p e ha hc hk s m args below hf hA hF happ hP
  obtain ⟨hcalls, hrest, hpre⟩ := hP
  obtain ⟨-, -, -, hnamed, -, -, -, hat⟩ := (Spec.applies_iff hf).mp happ
  obtain ⟨hg, hn⟩ := and_e (Cond.before_iff.mp (show (Jvm.Cond.and given_1 narrow_1).before args s = true from hpre))
  obtain ⟨g1, g2⟩ := and_e hg
  obtain ⟨g3, g4⟩ := and_e g2
  obtain ⟨g5, g6⟩ := and_e g4
  obtain ⟨g7, g8⟩ := and_e g6
  obtain ⟨w0, w1, w2, w3, rfl⟩ : ∃ w0 w1 w2 w3 : Value, args = #[w0, w1, w2, w3] := by
    have hs : args.size = 4 := by simpa [Cond.value, given_1] using g1
    obtain ⟨L⟩ := args
    match L, hs with
    | [w0, w1, w2, w3], _ => exact ⟨w0, w1, w2, w3, rfl⟩
  have hw := fun d (hd : d ∈ tables_1) => atoms_spec (ws := Jvm.Cond.code x code maxLocals ret :: tables_1) hat d (List.mem_cons_of_mem _ hd)
  have hfit : Fit s := fun {y c} hc i hi => by
    obtain ⟨ha, rfl⟩ := Array.getElem?_eq_some_iff.mp hc
    have q := List.all_eq_true.mp ((Array.all_eq_true_iff_forall_mem.mp hF) _ (Array.getElem_mem ha)) i (List.mem_range.mpr hi)
    simpa [Array.getElem?_eq_getElem hi] using q
  obtain ⟨i0, ei0⟩ := isL_v g3
  obtain rfl : w0 = (.long i0) := Option.some.inj ei0
  obtain ⟨i1, ei1⟩ := is_v g5
  obtain rfl : w1 = (.int i1) := Option.some.inj ei1
  obtain ⟨i2, ei2⟩ := is_v g7
  obtain rfl : w2 = (.int i2) := Option.some.inj ei2
  obtain ⟨i3, ei3⟩ := is_v g8
  obtain rfl : w3 = (.int i3) := Option.some.inj ei3
  obtain ⟨n, o, h1, h2, h3, _, L, rfl, ⟨rfl, N⟩, hq⟩ := rm0 l s _ hw tables_1 i0 i1 i2 i3  s.heap s.heap.size (Nat.le_refl _)  p e ha hc hk s m _ below hf ((Spec.applies_iff_loose hf).mp happ).1 ⟨rfl, State.Warmed39.refl s, rfl⟩ trivial
  refine ⟨n, _, h1, h2, h3, hpost _ _ _ _ _ _ ⟨Cond.after_iff.mpr rfl, Cond.after_iff.mpr (eq_i res_at (Term.int_eval (1)) rfl), trivial⟩ ⟨hq.1, hq.2.1, (hq.2.2.sift fun y hy => Or.inr (N y hy)).mono (by decide) (by decide)⟩⟩
theorem main_1_1 : Claimed_1_1 := comes_1 fun _ _ _ _ _ _ h hF => ⟨h.1, hF⟩
theorem main_1_2 : Claimed_1_2 := comes_1 fun _ _ _ _ _ _ h hF => ⟨h.2.1, hF⟩
end Jvm.Pilot.@@N@@
namespace Jvm.Pilot.@@N@@
open Jvm Jvm.ClassFile Sem Op Lib Jvm.Free Jvm.Stand Jvm.Pilot.@@N@@.Jvm.D
/-! MADE BY PROGRAM (witnessworld.py) out of the Statement's table words and the real class files: 9 classes; the members and pool entries that the words name. The judged class is class 1, her method 1. -/
namespace start1
open Jvm.ClassFile
def u (s : String) : CpInfo := .utf8 (stringToUtf16 s)
/-- a pool by its gaps: so many unusable entries, then the entry; so many at the end -/
def gap : Nat → List CpInfo → List CpInfo
  | 0, r => r
  | n + 1, r => .unusable :: gap n r
def poolList (es : List (Nat × CpInfo)) (last : Nat) : List CpInfo := es.foldr (fun e r => gap e.1 (e.2 :: r)) (gap last [])
def pool (es : List (Nat × CpInfo)) (last : Nat) : Array CpInfo := ⟨poolList es last⟩
def fileOf (pool : Array CpInfo) (this : Nat) (attrs : Array Attribute := #[]) (ms : Array MethodInfo := #[]) (fl : Nat := 33) (sup : Nat := 0) (ifs : Array Nat := #[]) (fds : Array FieldInfo := #[]) : ClassFile where
  minorVersion := 0
  majorVersion := 65
  constantPool := pool
  accessFlags := fl
  thisClass := this
  superClass := sup
  interfaces := ifs
  fields := fds
  methods := ms
  attributes := attrs
def plain (name : String) (sup : Option ClassId) : Class where
  name := name
  kind := .ordinary
  loader := none
  accessFlags := 33
  super := sup
  interfaces := #[]
  cf := none
  fields := #[]
  methods := #[]
  instanceTypes := #[]
  staticTypes := #[]
  resolved := #[]
  callSites := []
  init := .initialized
  statics := none
  mirror := none

def pool0 : Array CpInfo := pool [(5, u "<init>"), (0, u "()V"), (1, .class_ 10), (1, u "java/lang/Object")] 113

def k0m0 : Method := { name := "<init>", desc := "()V", sig := { parameters := [], returnType := none }, accessFlags := 1, code := none }
/-- java/lang/Object -/
def k0 : Class := { plain "java/lang/Object" none with
  accessFlags := 33
  interfaces := #[]
  cf := some (fileOf pool0 8 #[] #[{ accessFlags := 1, nameIndex := 5, descriptorIndex := 6, attributes := #[] }] 33 0 #[] #[])
  fields := #[]
  methods := #[k0m0]
  instanceTypes := #[]
  staticTypes := #[]
  resolved := Array.replicate 124 none
  statics := none }

def pool1 : Array CpInfo := pool [(2, .class_ 4), (1, u "java/lang/Object"), (0, u "<init>"), (0, u "()V"), (0, .integer 2147483647), (0, .methodref 9 10), (0, .class_ 11), (0, .nameAndType 12 13), (0, u "com/example/ledgerline/ledgerline/format/GrowingBytesLittleEndianPinLaw"), (0, u "pick"), (0, u "(IIJI)B"), (0, .methodref 15 16), (0, .class_ 17), (0, .nameAndType 18 19), (0, u "com/example/ledgerline/ledgerline/format/GrowingBytes"), (0, u "littleEndian"), (0, u "([BII)J"), (2, u "law"), (0, u "(JIII)Z")] 5

def k1m0 : Method := { name := "<init>", desc := "()V", sig := { parameters := [], returnType := none }, accessFlags := 1, code := none }
def k1c1 : Code := { maxStack := 7, maxLocals := 12, code := code, exceptionTable := #[], attributes := #[] }
def k1m1 : Method := { name := "law", desc := "(JIII)Z", sig := { parameters := [.long, .int, .int, .int], returnType := some .boolean }, accessFlags := 9, code := some k1c1 }
def k1c2 : Code := { maxStack := 5, maxLocals := 5, code := method_3_code, exceptionTable := #[], attributes := #[] }
def k1m2 : Method := { name := "pick", desc := "(IIJI)B", sig := { parameters := [.int, .int, .long, .int], returnType := some .byte }, accessFlags := 10, code := some k1c2 }
/-- com/example/ledgerline/ledgerline/format/GrowingBytesLittleEndianPinLaw -/
def k1 : Class := { plain "com/example/ledgerline/ledgerline/format/GrowingBytesLittleEndianPinLaw" (some 0) with
  accessFlags := 49
  interfaces := #[]
  cf := some (fileOf pool1 9 #[] #[{ accessFlags := 1, nameIndex := 5, descriptorIndex := 6, attributes := #[] }, { accessFlags := 9, nameIndex := 22, descriptorIndex := 23, attributes := #[] }, { accessFlags := 10, nameIndex := 12, descriptorIndex := 13, attributes := #[] }] 49 2 #[] #[])
  fields := #[]
  methods := #[k1m0, k1m1, k1m2]
  instanceTypes := #[]
  staticTypes := #[]
  resolved := Array.replicate 29 none
  statics := none }

def pool2 : Array CpInfo := pool [(2, .class_ 4), (1, u "java/lang/Object"), (9, .class_ 16), (1, u "com/example/ledgerline/ledgerline/format/GrowingBytes"), (0, u "bytes"), (0, u "[B"), (6, u "size"), (0, u "I"), (51, u "littleEndian"), (0, u "([BII)J")] 2

def k2c0 : Code := { maxStack := 6, maxLocals := 6, code := prog_17_method_11_code, exceptionTable := #[], attributes := #[] }
def k2m0 : Method := { name := "littleEndian", desc := "([BII)J", sig := { parameters := [(.array .byte), .int, .int], returnType := some .long }, accessFlags := 8, code := some k2c0 }
/-- com/example/ledgerline/ledgerline/format/GrowingBytes -/
def k2 : Class := { plain "com/example/ledgerline/ledgerline/format/GrowingBytes" (some 0) with
  accessFlags := 48
  interfaces := #[]
  cf := some (fileOf pool2 14 #[] #[{ accessFlags := 8, nameIndex := 78, descriptorIndex := 79, attributes := #[] }] 48 2 #[] #[{ accessFlags := 2, nameIndex := 17, descriptorIndex := 18, attributes := #[] }, { accessFlags := 2, nameIndex := 25, descriptorIndex := 26, attributes := #[] }])
  fields := #[{ name := "bytes", type := (.array .byte), accessFlags := 2, slot := 0, constantValue := 0 }, { name := "size", type := .int, accessFlags := 2, slot := 1, constantValue := 0 }]
  methods := #[k2m0]
  instanceTypes := #[(.array .byte), .int]
  staticTypes := #[]
  resolved := Array.replicate 82 none
  statics := none }

def pool3 : Array CpInfo := pool [(1, u "java/lang/Cloneable"), (0, .class_ 1), (0, u "java/lang/Object"), (0, .class_ 3)] 3

/-- java/lang/Cloneable -/
def k3 : Class := { plain "java/lang/Cloneable" (some 0) with
  accessFlags := 1537
  interfaces := #[]
  cf := some (fileOf pool3 2 #[] #[] 1537 4 #[] #[])
  fields := #[]
  methods := #[]
  instanceTypes := #[]
  staticTypes := #[]
  resolved := Array.replicate 8 none
  statics := none }

def pool4 : Array CpInfo := pool [(1, u "java/io/Serializable"), (0, .class_ 1), (0, u "java/lang/Object"), (0, .class_ 3)] 3

/-- java/io/Serializable -/
def k4 : Class := { plain "java/io/Serializable" (some 0) with
  accessFlags := 1537
  interfaces := #[]
  cf := some (fileOf pool4 2 #[] #[] 1537 4 #[] #[])
  fields := #[]
  methods := #[]
  instanceTypes := #[]
  staticTypes := #[]
  resolved := Array.replicate 8 none
  statics := none }

/-- the primitive byte -/
def k5 : Class := { plain "byte" none with kind := .primitive 'B', accessFlags := 0x411 }
/-- [B -/
def k6 : Class := { plain "[B" (some 0) with kind := .array 5 .byte, interfaces := #[3, 4], accessFlags := 1041 }

/-- the primitive int -/
def k7 : Class := { plain "int" none with kind := .primitive 'I', accessFlags := 0x411 }
/-- [I -/
def k8 : Class := { plain "[I" (some 0) with kind := .array 7 .int, interfaces := #[3, 4], accessFlags := 1041 }

def heap : Heap := #[]
def classes : Array Class := #[k0, k1, k2, k3, k4, k5, k6, k7, k8]
def interned : List (Array UInt16 × Addr) := []
def slotsUsed : Nat := 0
def theMethod : MethodId := ⟨1, 1⟩
def args0 : Array Value := #[.long 5, .int 6, .int 7, .int 1]
def aboutOver (below : List Frame) : State where
  vm := { classes := classes, interned := interned.toArray }
  heap := heap
  slotsUsed := slotsUsed
  threads := #[{ frames := .invoking theMethod args0 :: below }]
def below0 : List Frame := [.native { method := ⟨0, 0⟩, args := #[] }]
def about1 : State := aboutOver below0
def p0 : Program := .bare "" "" ""
def e0 : Env := launch0.env 0 0 0
theorem w_frames : about1.frames = Frame.invoking theMethod args0 :: below0 := rfl
set_option maxRecDepth 65536 in
theorem w_args : argsFit about1.vm theMethod args0 = true := by decide +kernel
set_option maxRecDepth 65536 in
theorem w_heap : heapFits about1 = true := by decide +kernel
set_option maxRecDepth 65536 in
theorem w_runnable : about1.curStatus? = some .runnable := by decide +kernel
set_option maxRecDepth 65536 in
theorem w_alone : about1.alone = true := by decide +kernel
set_option maxRecDepth 65536 in
theorem w_named : about1.methodNamed? x = some theMethod := by decide +kernel
set_option maxRecDepth 65536 in
theorem w_hears : about1.hears theMethod below0 = true := by decide +kernel
set_option maxRecDepth 65536 in
theorem w_ripe : about1.ripe theMethod args0 below0 = true := by decide +kernel
theorem w_running : about1.status = .running := rfl
set_option maxRecDepth 65536 in
theorem w_room : about1.hasRoom e0.platform room_1 = true :=
  launch0.hasRoom_least _ room_1 (by decide +kernel) (by decide +kernel) (by decide +kernel) (by decide +kernel) (by decide +kernel) (by decide +kernel)
theorem allAtoms_all (ts : List Jvm.Cond) (a : Array Jvm.Value) (st : Jvm.State) : (allAtoms ts).before a st = ts.all (fun c => c.before a st) := by
  induction ts with
  | nil => rfl
  | cons c t ih =>
    show (Jvm.Cond.and c (allAtoms t)).before a st = _
    rw [Jvm.Cond.before_and, ih, List.all_cons]
def words1 : List Jvm.Cond := Jvm.Cond.code x code maxLocals ret :: tables_1
/-- a 'code' word, met by the world's own term for the bytes: nothing is compared byte by byte -/
theorem code_word {y : MethodName} {bytes : ByteArray} {mx : Nat} {rt : Option FieldType} {a : Array Value} {s : State} {m : MethodId} {meth : Method} {c : Code} (h1 : s.methodNamed? y = some m) (h2 : s.vm.method? m = some meth) (h3 : meth.code = some c) (h4 : c.code = bytes)
    (h5 : (c.maxLocals == mx && c.exceptionTable.isEmpty && decide (c.maxStack ≤ mostOperands) && decide (meth.sig.returnType = rt) && !meth.locks && decide (parseMethodDescriptor y.desc = some meth.sig)) = true) : (Jvm.Cond.code y bytes mx rt).before a s = true := by
  simp only [Bool.and_eq_true, beq_iff_eq, Bool.not_eq_true', decide_eq_true_eq] at h5
  obtain ⟨⟨⟨⟨⟨g1, g2⟩, g3⟩, g4⟩, g5⟩, g6⟩ := h5
  simp [Cond.before, Cond.holds, Cond.value, h1, h2, h3, h4, g1, g2, g3, g4, g5, g6]
def isCode : Jvm.Cond → Bool
  | .code _ _ _ _ => true
  | _ => false
theorem all_split {L : List Jvm.Cond} {P : Jvm.Cond → Bool} (h1 : L.all (fun c => isCode c || P c) = true) (h2 : ∀ c ∈ L.filter isCode, P c = true) : L.all P = true := by
  refine List.all_eq_true.mpr fun c hc => ?_
  have h := List.all_eq_true.mp h1 c hc
  rcases Bool.eq_false_or_eq_true (isCode c) with hi | hi
  · exact h2 c (List.mem_filter.mpr ⟨hc, hi⟩)
  · simpa [hi] using h
set_option maxRecDepth 65536 in
theorem w_c0 : (Jvm.Cond.code x code maxLocals ret).before args0 about1 = true := code_word (m := ⟨1, 1⟩) (meth := k1m1) (c := k1c1) (by decide +kernel) rfl rfl rfl (by decide +kernel)
set_option maxRecDepth 65536 in
theorem w_c1 : (Jvm.Cond.code ({ cls := "com/example/ledgerline/ledgerline/format/GrowingBytesLittleEndianPinLaw", name := "pick", desc := "(IIJI)B" } : Jvm.MethodName) method_3_code (5 : Nat) (Option.some Jvm.ClassFile.FieldType.byte)).before args0 about1 = true := code_word (m := ⟨1, 2⟩) (meth := k1m2) (c := k1c2) (by decide +kernel) rfl rfl rfl (by decide +kernel)
set_option maxRecDepth 65536 in
theorem w_c2 : (Jvm.Cond.code ({ cls := "com/example/ledgerline/ledgerline/format/GrowingBytes", name := "littleEndian", desc := "([BII)J" } : Jvm.MethodName) prog_17_method_11_code (6 : Nat) (Option.some Jvm.ClassFile.FieldType.long)).before args0 about1 = true := code_word (m := ⟨2, 0⟩) (meth := k2m0) (c := k2c0) (by decide +kernel) rfl rfl rfl (by decide +kernel)
def codes1 : List Jvm.Cond := [Jvm.Cond.code x code maxLocals ret, Jvm.Cond.code ({ cls := "com/example/ledgerline/ledgerline/format/GrowingBytesLittleEndianPinLaw", name := "pick", desc := "(IIJI)B" } : Jvm.MethodName) method_3_code (5 : Nat) (Option.some Jvm.ClassFile.FieldType.byte), Jvm.Cond.code ({ cls := "com/example/ledgerline/ledgerline/format/GrowingBytes", name := "littleEndian", desc := "([BII)J" } : Jvm.MethodName) prog_17_method_11_code (6 : Nat) (Option.some Jvm.ClassFile.FieldType.long)]
set_option maxRecDepth 65536 in
theorem codes_eq : words1.filter isCode = codes1 := rfl
theorem w_codes : ∀ c ∈ words1.filter isCode, c.before args0 about1 = true := by
  rw [codes_eq]
  intro c hc
  simp only [codes1, List.mem_cons, List.not_mem_nil, or_false] at hc
  rcases hc with rfl | rfl | rfl
  · exact w_c0
  · exact w_c1
  · exact w_c2
set_option maxRecDepth 65536 in
theorem w_t1 : words1.all (fun c => isCode c || c.before args0 about1) = true := by decide +kernel
theorem w_tables : (allAtoms (Jvm.Cond.code x code maxLocals ret :: tables_1)).before args0 about1 = true := by
  rw [allAtoms_all]
  show words1.all (fun c => c.before args0 about1) = true
  refine all_split ?_ w_codes
  rw [w_t1]
set_option maxRecDepth 65536 in
theorem w_case : (Jvm.Cond.and given_1 narrow_1).before args0 about1 = true := by decide +kernel
theorem w_applies : (headSpec (Jvm.Cond.code x code maxLocals ret :: tables_1) room_1).applies x e0.platform about1 = true :=
  (Spec.applies_iff w_frames).mpr ⟨w_running, w_runnable, w_alone, w_named, w_hears, w_ripe, w_room, w_tables⟩
theorem atStart : AtStart classFile x code maxLocals ret World_1 tables_1 room_1 Calls_1 rest_1 Pre_1 launch0 p0 e0 about1 theMethod args0 below0 :=
  ⟨lists_1, trivial, launch0.admits_env _ _ _, launch0.least_env, fairChoices_fair.cas, fairChoices_fair.clock, w_frames, w_args, w_heap, w_applies, trivial, trivial, w_case⟩
end start1
theorem witness_1 : WitnessClaimed_1 := ⟨start1.p0, start1.e0, start1.about1, start1.theMethod, start1.args0, start1.below0, start1.atStart⟩
end Jvm.Pilot.@@N@@
